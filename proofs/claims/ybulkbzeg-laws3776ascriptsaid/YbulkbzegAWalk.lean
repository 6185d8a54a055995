import Derived.Test.YbulkbzegSent
import Derived.Test.YbulkbzegAPlain
import Derived.Laws.CopyOwn
import Derived.Laws.AppendOwnNone
import Derived.Deep.QuietTactic
import Derived.BigQuiet
import Derived.WalkSmall
namespace Go.Proofs.Ybulkbzeg
open Go.RowKit APlain

/-- 'append(v, src...)', v the call's own, src whatever slice (nil too). -/
theorem wpList_append_own_any {P : Program} (w : World) {ops : Array Oper} {rest : List Oper} {o : Oper} {a : Act} {Q : Exit → Act → World → Prop} (hgd : o.guard = none) (s x : Operand) (t : TypeId)
    (ho : o.op = .call { callee := .builtin .append, args := #[s, x], argTypes := #[t, t] })
    (base : Nat) (e : TypeId) (i : TypeInfo) (z : Value) (size bytes : Nat) (ht : P.underlying t = some (.slice e)) (hi : P.info? e = some i) (hz : i.zero = some z)
    (hsize : i.size = size) (hby : i.bytes = bytes) (hzs : z.cells.size = size) (hsz : 0 < size)
    (v : Value) (n : Nat) (xs : List Value) (hs : a.eval s = v) (hown : w.ownsRow base e size v n xs)
    (so : Option Addr) (m c : Nat) (news : List Value) (hx : a.eval x = .slice so m c) (hnone : so = none → m = 0 ∧ c = 0) (hl : news.length = m * size) (hnews : ∀ ad, so = some ad → ∀ j u, news[j]? = some u → w.cell? (ad.add j) = some u) (h1 : ∀ u ∈ news, u.oneCell' = true)
    (hmax : n + m ≤ maxLen) (hbytes : (n + m) * bytes ≤ 140737488355328) (hbase : base ≤ w.heap.size)
    (h : ∀ v' w', w'.ownsRow base e size v' (n + m) (xs ++ news) → w.grownBy w' v.ownBlock → wpList P ops Q rest (a.put o.dst v') w') : wpList P ops Q (o :: rest) a w := by
  cases so with
  | none =>
    obtain ⟨rfl, rfl⟩ := hnone rfl
    obtain rfl : news = [] := by simpa using hl
    exact wpList_append_own_none hgd s x t ho base e i size ht hi v n xs hs hown hx (h v w (by simpa using hown) (World.grownBy.refl _ _))
  | some ad =>
    exact wpList_append_own w hgd s x t ho base e i z size bytes ht hi hz hsize hby hzs hsz v n xs hs hown ad m c news hx hl (hnews ad rfl) h1 hmax hbytes hbase (fun v' w' h1 h2 _ => h v' w' h1 h2)

abbrev ints (l : List Int) : List Value := l.map (Value.int .i64)

/-- A row that is full: its block. -/
theorem own_full {w : World} {B g n : Nat} {xs : List Value} (h : w.ownsRow B 3 1 (.slice (some ⟨g, 0, none⟩) n n) n xs) : w.heap[g]? = some (.cells xs.toArray 3 (0, 0)) := by
  rcases h.2 with ⟨h1, _⟩ | ⟨g', cap', cur, h1, h2, h3, h4, h5, h6, h7⟩
  · simp at h1
  · simp only [Value.slice.injEq, Option.some.injEq, Addr.mk.injEq] at h1
    obtain ⟨⟨rfl, _⟩, _, rfl⟩ := h1
    rw [List.take_of_length_le (by simpa using Nat.le_of_eq h6)] at h7
    rw [h3, ← h7]

theorem full_own {w : World} {B g n : Nat} {xs : List Value} (hB : B ≤ g) (hl : xs.length = n) (hn : n ≤ maxLen) (h : w.heap[g]? = some (.cells xs.toArray 3 (0, 0))) : w.ownsRow B 3 1 (.slice (some ⟨g, 0, none⟩) n n) n xs :=
  ⟨by simpa using hl, .inr ⟨g, n, xs.toArray, rfl, hB, h, Nat.le_refl _, hn, by simpa using hl, by simp [← hl]⟩⟩

theorem splice_all {α : Type} (L cs : List α) (h : cs.length = L.length) : splice L 0 cs = cs := by
  simp [splice, h]

/-- 'want' behind the steps from m to j. -/
def wantTo (st : List (Int × Int)) (W0 : List Int) (m j : Nat) : List Value := ints (W0 ++ ((st.drop m).take (j - m)).map Prod.snd)
theorem wantTo_start (st : List (Int × Int)) (W0 : List Int) (m : Nat) : wantTo st W0 m m = ints W0 := by simp [wantTo]
theorem wantTo_end (st : List (Int × Int)) (W0 : List Int) (m n : Nat) (h : st.length = n) : wantTo st W0 m n = ints (W0 ++ (st.drop m).map Prod.snd) := by
  unfold wantTo; rw [List.take_of_length_le (by simp; omega)]

theorem grow_take (st : List (Int × Int)) (W0 : List Int) (m j : Nat) (h1 : m ≤ j) (h2 : j < st.length) :
    wantTo st W0 m (j + 1) = wantTo st W0 m j ++ [.int .i64 (st.getD j (0, 0)).2] := by
  have e : j + 1 - m = (j - m) + 1 := by omega
  have hl : j - m < (st.drop m).length := by simp; omega
  unfold wantTo
  rw [e, List.take_succ_eq_append_getElem hl]
  have h3 : m + (j - m) = j := by omega
  simp [ints, List.getD, h2, h3]

/-- 'sent', whatever the round. -/
theorem sent_any (B T g cap : Nat) (s : Int × List Int) (q i s1 s2 e1 e2 : Int) (w : World)
    (ht : IsTally w B T s.1 (.slice (some ⟨g, 0, none⟩) s.2.length cap) s1 s2 e1 e2)
    (hown : w.ownsRow B 3 1 (.slice (some ⟨g, 0, none⟩) s.2.length cap) s.2.length (ints s.2)) (hn : s.2.length ≤ 100000) :
    Calls Yba.prog 7 #[.pointer (some ⟨T, 0, none⟩), .int .i64 q, .int .i64 i] w fun e w' => e = .returned (.tuple #[]) ∧
      ∃ g' cap', IsTally w' B T (tally1 s (q, i)).1 (.slice (some ⟨g', 0, none⟩) (tally1 s (q, i)).2.length cap') s1 s2 e1 e2 ∧
        w'.ownsRow B 3 1 (.slice (some ⟨g', 0, none⟩) (tally1 s (q, i)).2.length cap') (tally1 s (q, i)).2.length (ints (tally1 s (q, i)).2) ∧ Below B w w' := by
  by_cases h : q = s.1
  · subst h
    refine (sent_same B T g _ cap s.1 i s1 s2 e1 e2 _ w ht hown hn).mono ?_
    rintro e w' ⟨rfl, g', cap', h1, h2, h3⟩
    exact ⟨rfl, g', cap', by simpa [tally1] using h1, by simpa [tally1] using h2, h3⟩
  · refine (sent_other B T g _ cap s.1 q i s1 s2 e1 e2 _ w (by simpa using h) ht hown).mono ?_
    rintro e w' ⟨rfl, g', cap', h1, h2, h3⟩
    exact ⟨rfl, g', cap', by simpa [tally1, h] using h1, by simpa [tally1, h] using h2, h3⟩

set_option maxHeartbeats 1600000 in
set_option maxRecDepth 100000 in
theorem walk_steps (r0 s1 s2 e1 e2 : Int) (a1 : Option Addr) (len1 cap1 : Nat) (xs : List Int) (b off n cap2 : Nat) (st : List (Int × Int)) (w : World)
    (hx : xs.length = len1) (hnone : a1 = none → len1 = 0 ∧ cap1 = 0) (hcx : ∀ ad, a1 = some ad → ∀ j u, (ints xs)[j]? = some u → w.cell? (ad.add j) = some u)
    (hbx : ∀ ad, a1 = some ad → 0 < len1 → ad.block < w.heap.size)
    (hb : b < w.heap.size) (hst : st.length = n) (hn0 : 0 < n) (hn : n ≤ 1024) (hl1 : len1 ≤ 1024)
    (hc0 : ∀ j, j < n → w.cell? ⟨b, off + j * 2, none⟩ = some (.int .i64 (st.getD j (0, 0)).1))
    (hc1 : ∀ j, j < n → w.cell? ⟨b, off + j * 2 + 1, none⟩ = some (.int .i64 (st.getD j (0, 0)).2)) :
    Calls Yba.prog 3 #[.int .i64 r0, .slice a1 len1 cap1, .slice (some ⟨b, off, none⟩) n cap2, .int .i64 s1, .int .i64 s2, .int .i64 e1, .int .i64 e2] w fun e w' =>
      e = .returned (.bool true) ∧ Below w.heap.size w w' := by
  obtain ⟨i0, hi, hz0, hz1, hz2⟩ := info_parts Yba.info3
  go_enter Yba.func3, Yba.ntmps3
  go_wp2_with (first
    | (at_make; refine wpList_make_full _ rfl _ _ 22 rfl w.heap.size 3 i0 (.int .i64 0) 1 Yba.underlying22 hi hz0 hz1 .i64 .i64 _ _ len1 rfl rfl rfl rfl ?m1 ?m2 (Nat.le_refl _) ?_))
  case m1 => rw [hz2]; omega
  case m2 => unfold maxLen; omega
  intro wm hom hgm
  have hfull : Hid _ := own_full hom
  have hbm : Below w.heap.size w wm := (Below.refl _ _).grown hgm (Nat.le_refl _) (fun k h => by cases h)
  have hlm : (madeCells #[Value.int .i64 0] len1).toList.length = len1 := by simpa using hom.1
  have hzw : w.heap.size < wm.heap.size := lt_of_block hfull.out
  clear hom hgm
  have hsrc : Hid (0 < (ints xs).length → ∃ ad, a1 = some ad ∧ ∀ j v, (ints xs)[j]? = some v → wm.cell? (ad.add j) = some v) := by
    intro hp
    cases a1 with
    | none => have := hnone rfl; simp at hp; omega
    | some ad =>
      refine ⟨ad, rfl, fun j u hu => ?_⟩
      have hlt := hbx ad rfl (by simp at hp; omega)
      rw [hbm.cell (p := ad.add j) (by rw [add_block]; exact hlt)]
      exact hcx ad rfl j u hu
  have hk1 : Hid ((Yba.prog.info? 3).map (·.size) = some 1) := by show _ = _; rw [hi]; simp [hz1]
  have hk2 : Hid ((ints xs).length = Nat.min len1 len1) := by show _ = _; simp [hx]
  have hk4 : Hid (0 + (ints xs).length ≤ (madeCells #[Value.int .i64 0] len1).toList.length) := by show _ ≤ _; rw [hlm]; simp [hx]
  go_wp2_with (refine wpList_copy_splice rfl (.tmp 37) (.tmp 38) 22 22 rfl 3 Yba.underlying22 hk1.out _ a1 len1 len1 len1 cap1 rfl rfl w.heap.size 0 _ 3 hfull.out (ints xs) hk2.out (fun hp => ⟨rfl, hsrc.out hp⟩) hk4.out (ints_oneCell _ _) w.heap.size w hbm (Nat.le_refl _) ?_)
  clear hsrc hk1 hk2 hk4
  intro wc Hc hbc
  have hown0 : wc.ownsRow w.heap.size 3 1 (.slice (some ⟨w.heap.size, 0, none⟩) len1 len1) len1 (ints xs) := by
    have h := Hc.out
    rw [splice_all _ _ (by rw [hlm]; simp [hx])] at h
    exact full_own (Nat.le_refl _) (by simp [hx]) (by unfold maxLen; omega) h
  have hzc : w.heap.size < wc.heap.size := lt_of_block Hc.out
  clear Hc hfull hbm hlm hzw
  have hT : IsTally (wc.alloc (.cells (tal r0 (.slice (some ⟨w.heap.size, 0, none⟩) len1 len1) s1 s2 e1 e2) 32)) w.heap.size wc.heap.size r0 (.slice (some ⟨w.heap.size, 0, none⟩) len1 len1) s1 s2 e1 e2 :=
    ⟨by omega, heap_alloc_new _ _⟩
  have hHT := hide hT
  have hH0 := hide (hown0.alloc (.cells (tal r0 (.slice (some ⟨w.heap.size, 0, none⟩) len1 len1) s1 s2 e1 e2) 32))
  have hHb := hide (hbc.alloc (by omega) (.cells (tal r0 (.slice (some ⟨w.heap.size, 0, none⟩) len1 len1) s1 s2 e1 e2) 32))
  clear hT hown0 hbc
  go_wp2_with fail
  go_loopw [50] (fun i wr => ∃ k : Nat, k ≤ n ∧ i = .int .i64 k ∧ ∃ g cap,
      IsTally wr w.heap.size wc.heap.size (tallied (r0, xs) (st.take k)).1 (.slice (some ⟨g, 0, none⟩) (tallied (r0, xs) (st.take k)).2.length cap) s1 s2 e1 e2 ∧
      wr.ownsRow w.heap.size 3 1 (.slice (some ⟨g, 0, none⟩) (tallied (r0, xs) (st.take k)).2.length cap) (tallied (r0, xs) (st.take k)).2.length (ints (tallied (r0, xs) (st.take k)).2) ∧
      Below w.heap.size w wr) (fun i _ => n - (intOf i).toNat)
  case atStart => exact ⟨0, Nat.zero_le _, rfl, w.heap.size, len1, by simpa [tallied, hx, tal] using unhide hHT, by simpa [tallied, hx, tal] using unhide hH0, unhide hHb⟩
  case round =>
    obtain ⟨k, hk, rfl, g, cap, ht, hown, hbel⟩ := hrel
    by_cases hlt : k < n
    · have q0 := (hbel.cell (p := ⟨b, off + k * 2, none⟩) hb).trans (hc0 k hlt)
      have q1 := (hbel.cell (p := ⟨b, off + k * 2 + 1, none⟩) hb).trans (hc1 k hlt)
      obtain ⟨pr, pi, hp⟩ : ∃ pr pi, st.getD k (0, 0) = (pr, pi) := ⟨_, _, rfl⟩
      have hnext : Hid (tallied (r0, xs) (st.take (k + 1)) = tally1 (tallied (r0, xs) (st.take k)) (pr, pi)) := by
        rw [← hp]; exact tallied_take _ _ _ (by omega)
      rw [hp] at q0 q1
      have hlen := tallied_len (st.take k) (r0, xs)
      have hlen' : (tallied (r0, xs) (st.take k)).2.length ≤ 2048 := by simp at hlen; omega
      clear hp hlen
      generalize tallied (r0, xs) (st.take k) = s at *
      have hTs := hide ht
      have hOs := hide hown
      have hBs := hide hbel
      clear ht hown hbel hc0 hc1
      have hsz := (unhide hBs).size
      go_wp2_with fail
      refine (sent_any w.heap.size wc.heap.size g cap s pr pi s1 s2 e1 e2 _ ((unhide hTs).alloc _) ((unhide hOs).alloc _) (by omega)).mono ?_
      rintro e w' ⟨rfl, g', cap', h1, h2, h3⟩
      have R := hide (And.intro h1 (And.intro h2 (((unhide hBs).alloc (by omega) _).trans h3)))
      clear h1 h2 h3 hTs hOs hBs q0 q1
      go_wp2
      go_roundw
      case rel => exact ⟨k + 1, by omega, by go_num, g', cap', by rw [hnext.out]; exact (unhide R).1, by rw [hnext.out]; exact (unhide R).2.1, (unhide R).2.2⟩
      case measure => simp [intOf]; omega
    · obtain rfl : k = n := by omega
      obtain ⟨wo, rfl⟩ : ∃ wo : World, wo = wr := ⟨_, rfl⟩
      rw [List.take_of_length_le (by omega)] at ht hown
      have hlaw := law r0 xs st
      generalize tallied (r0, xs) st = s at *
      have c3 := ht.c3
      have c4 := ht.c4
      have c5 := ht.c5
      have c6 := ht.c6
      have c7 := ht.c7
      have c8 := ht.c8
      obtain ⟨last, hlast⟩ : ∃ q, (st.getD (k - 1) (0, 0)).1 = q := ⟨_, rfl⟩
      have q0 := (hbel.cell (p := ⟨b, off + (k - 1) * 2, none⟩) hb).trans (hc0 (k - 1) (by omega))
      rw [hlast] at q0
      have hLast := hide hlast
      have hLaw := hide hlaw
      have hTs := hide ht
      have hOs := hide hown
      have hBs := hide hbel
      have hCs : Hid ((∀ j, j < k → wo.cell? ⟨b, off + j * 2, none⟩ = some (.int .i64 (st.getD j (0, 0)).1)) ∧ ∀ j, j < k → wo.cell? ⟨b, off + j * 2 + 1, none⟩ = some (.int .i64 (st.getD j (0, 0)).2)) :=
        ⟨fun j hj => (hbel.cell (p := ⟨b, off + j * 2, none⟩) hb).trans (hc0 j hj), fun j hj => (hbel.cell (p := ⟨b, off + j * 2 + 1, none⟩) hb).trans (hc1 j hj)⟩
      have hCx : Hid (∀ ad, a1 = some ad → ∀ j u, (ints xs)[j]? = some u → wo.cell? (ad.add j) = some u) := by
        intro ad ha j u hu
        have hj := (List.getElem?_eq_some_iff.1 hu).1
        simp at hj
        rw [hbel.cell (p := ad.add j) (by rw [add_block]; exact hbx ad ha (by omega))]
        exact hcx ad ha j u hu
      have hbr : b < wo.heap.size := by have := hbel.size; omega
      have hNone := hide hnone
      clear ht hown hbel hlaw hlast hc0 hc1 hcx hbx hnone hHT hH0 hHb
      have hk0 : ((k : Int) == 0) = false := beq_eq_false_iff_ne.2 (by omega)
      go_wp2_with fail
      go_loop [23] (fun t => ∃ m : Nat, m < k ∧ t = .int .i64 m ∧ Hid (∀ j, m ≤ j → j < k → (st.getD j (0, 0)).1 = last)) (fun t => (intOf t).toNat)
      case atStart =>
        refine ⟨k - 1, by omega, by rw [show ((k - 1 : Nat) : Int) = (k : Int) - 1 from by omega], ?_⟩
        intro j h1 h2
        obtain rfl : j = k - 1 := by omega
        exact unhide hLast
      case round =>
        obtain ⟨m, hm, rfl, hrun⟩ := hrel
        by_cases hm0 : m = 0
        · have hFin := unhide hLaw last m (by omega) (by simpa [hst] using unhide hrun) (Or.inl hm0)
          have hmb : ((m : Int) == 0) = true := beq_iff_eq.2 (by omega)
          have hmle : m ≤ 0 := by omega
          by_cases hl0 : last = r0
          · rw [if_pos ⟨hm0, hl0⟩] at hFin
            have hlb : (last == r0) = true := beq_iff_eq.2 hl0
            have hFin := hide hFin
            clear hm0 hl0
            go_wp2_with (at_builtin; refine wpList_append_own_any _ rfl (.tmp 129) (.tmp 130) 22 rfl wo.heap.size 3 i0 (.int .i64 0) 1 8 Yba.underlying22 hi hz0 hz1 hz2 rfl (by decide) _ _ _ rfl (World.ownsRow_nil _ _ _ _) a1 len1 cap1 (ints xs) rfl (unhide hNone) (by simp [hx]) (unhide hCx) (ints_oneCell _ _) (by unfold maxLen; omega) (by omega) (Nat.le_refl _) ?_)
            intro v1 w1 hown1 hgrow1
            obtain ⟨W0, hW0⟩ : ∃ W0 : List Int, W0 = xs := ⟨_, rfl⟩
            have hOw : Hid (w1.ownsRow wo.heap.size 3 1 v1 W0.length (ints W0)) := hide (by rw [hW0]; simpa [hx] using hown1)
            have hBq : Hid (Below wo.heap.size wo w1) := (Below.refl _ _).grown hgrow1 (Nat.le_refl _) (fun k h => by cases h)
            rw [← hW0] at hFin
            have hWl : W0.length ≤ 1024 := by rw [hW0]; omega
            clear hW0 hown1 hgrow1
            go_wp2_with fail
            clear hCx hNone hLaw hLast hrun
            go_loopw [19, 24] (fun v i wq => ∃ j : Nat, m ≤ j ∧ j ≤ k ∧ i = .int .i64 j ∧ Hid (wq.ownsRow wo.heap.size 3 1 v (W0.length + (j - m)) (wantTo st W0 m j)) ∧ Hid (Below wo.heap.size wo wq)) (fun _ i _ => k - (intOf i).toNat)
            case atStart => exact ⟨m, Nat.le_refl _, by omega, rfl, by rw [wantTo_start, Nat.sub_self]; exact hOw, hBq⟩
            case round =>
              obtain ⟨j, hj1, hj2, rfl, hOj, hBj⟩ := hrel
              clear hOw hBq
              by_cases hjk : j < k
              · have qj := ((unhide hBj).cell (p := ⟨b, off + j * 2 + 1, none⟩) hbr).trans ((unhide hCs).2 j hjk)
                have hnx : Hid (wantTo st W0 m (j + 1) = wantTo st W0 m j ++ [.int .i64 (st.getD j (0, 0)).2]) :=
                  hide (grow_take st W0 m j hj1 (by omega))
                generalize (st.getD j (0, 0)).2 = pj at *
                have hszj := (unhide hBj).size
                go_wp2_with (at_builtin; refine wpList_append_own _ rfl (.tmp 138) (.tmp 144) 22 rfl wo.heap.size 3 i0 (.int .i64 0) 1 8 Yba.underlying22 hi hz0 hz1 hz2 rfl (by decide) _ _ _ rfl ((unhide hOj).alloc _) ⟨wr.heap.size, 0, none⟩ 1 1 [.int .i64 pj] rfl rfl (fun j u hj => by match j, hj with | 0, hj => simp at hj; subst hj; exact new_cell _ rfl _ _) (fun u hu => by simp at hu; subst hu; rfl) (by unfold maxLen; omega) (by omega) (by simp; omega) ?_)
                intro v' w1 hown' hgrow _
                have R1 : Hid (w1.ownsRow wo.heap.size 3 1 v' (W0.length + (j + 1 - m)) (wantTo st W0 m (j + 1))) :=
                  hide (by rw [hnx.out, show W0.length + (j + 1 - m) = W0.length + (j - m) + 1 from by omega]; exact hown')
                have R2 : Hid (Below wo.heap.size wo w1) := hide (((unhide hBj).alloc (by omega) _).grown hgrow (by simp; omega) (fun k hk => ((unhide hOj).lt k hk).1))
                clear hOj hBj hown' hgrow qj hnx
                go_wp2
                go_roundw
                case rel => exact ⟨j + 1, by omega, by omega, by go_num, R1, R2⟩
                case measure => simp [intOf]; omega
              · obtain rfl : j = k := by omega
                obtain ⟨wq, rfl⟩ : ∃ wq : World, wq = wr := ⟨_, rfl⟩
                have hOk := unhide hOj
                rw [wantTo_end st W0 m j hst] at hOk
                have hs2 : (W0 ++ (st.drop m).map Prod.snd) = s.2 := by rw [unhide hFin]
                have hs1 : s.1 = last := by rw [unhide hFin]
                rw [hs2] at hOk
                have hsl : W0.length + (j - m) = s.2.length := by rw [← hs2]; simp [hst]
                rw [hsl] at hOk hOj
                have hpos : 0 < s.2.length := by omega
                obtain ⟨gv, capv, hv⟩ := own_form' hOk hpos
                have hbq := unhide hBj
                have hTl := (unhide hTs).lt
                have hgl := ((unhide hOs).lt g rfl).2
                have d3 := (hbq.cell (p := ⟨wc.heap.size, 3, none⟩) hTl).trans c3
                have d4 := (hbq.cell (p := ⟨wc.heap.size, 4, none⟩) hTl).trans c4
                rw [hs1] at d3
                have hA : Hid (∀ t, t < s.2.length → wq.cell? ⟨g, t, none⟩ = some (.int .i64 (s.2.getD t 0))) := by
                  intro t ht
                  rw [hbq.cell (p := ⟨g, t, none⟩) hgl, (unhide hOs).cellAt t (by omega)]
                  simp [ints, ht, List.getD]
                rw [hv] at hOk
                have hB : Hid (∀ t, t < s.2.length → wq.cell? ⟨gv, t, none⟩ = some (.int .i64 (s.2.getD t 0))) := by
                  intro t ht
                  rw [hOk.cellAt t (by omega)]
                  simp [ints, ht, List.getD]
                have hgvl := (hOk.lt gv rfl).2
                have hgl' : g < wq.heap.size := by have := hbq.size; omega
                have hTl' : wc.heap.size < wq.heap.size := by have := hbq.size; omega
                have hSl : s.2.length ≤ 2048 := by omega
                have hBw : Hid (Below w.heap.size w wq) := hide ((unhide hBs).trans (hbq.mono (by have := (unhide hBs).size; omega)))
                subst hv
                clear hOk hbq hOj hBj hTs hOs hBs c3 c4 hFin hs1 hs2 hsl
                generalize s.2 = L at *
                go_wp2_with fail
                go_loopw [25] (fun i wz => ∃ t : Nat, t ≤ L.length ∧ i = .int .i64 t ∧ Hid (Below wq.heap.size wq wz)) (fun i _ => L.length - (intOf i).toNat)
                case atStart => exact ⟨0, Nat.zero_le _, rfl, Below.refl _ _⟩
                case round =>
                  obtain ⟨t, ht, rfl, hBz⟩ := hrel
                  have x4 := ((unhide hBz).cell (p := ⟨wc.heap.size, 4, none⟩) hTl').trans d4
                  by_cases htl : t < L.length
                  · have x1 := ((unhide hBz).cell (p := ⟨g, t, none⟩) hgl').trans (unhide hA t htl)
                    have x2 := ((unhide hBz).cell (p := ⟨gv, t, none⟩) hgvl).trans (unhide hB t htl)
                    generalize L.getD t 0 = z at *
                    go_wp2
                    go_quiet (fail)
                    go_wp2
                    go_roundw
                    case rel => exact ⟨t + 1, by omega, by go_num, hide (below_drewN (unhide hBz) _)⟩
                    case measure => simp [intOf]; omega
                  · go_wp2
                    go_ret
                    exact ⟨rfl, (unhide hBw).trans ((unhide hBz).mono (by have := (unhide hBw).size; omega))⟩
          · rw [if_neg (fun h => hl0 h.2)] at hFin
            have hlb : (last == r0) = false := beq_eq_false_iff_ne.2 hl0
            have hFin := hide hFin
            clear hm0 hl0
            obtain ⟨W0, hW0⟩ : ∃ W0 : List Int, W0 = [] := ⟨_, rfl⟩
            have hOw : Hid (wo.ownsRow wo.heap.size 3 1 (.slice none 0 0) W0.length (ints W0)) := by rw [hW0]; exact World.ownsRow_nil _ _ _ _
            have hBq : Hid (Below wo.heap.size wo wo) := Below.refl _ _
            rw [← hW0] at hFin
            have hWl : W0.length ≤ 1024 := by rw [hW0]; simp
            clear hW0
            go_wp2_with fail
            clear hCx hNone hLaw hLast hrun
            go_loopw [19, 24] (fun v i wq => ∃ j : Nat, m ≤ j ∧ j ≤ k ∧ i = .int .i64 j ∧ Hid (wq.ownsRow wo.heap.size 3 1 v (W0.length + (j - m)) (wantTo st W0 m j)) ∧ Hid (Below wo.heap.size wo wq)) (fun _ i _ => k - (intOf i).toNat)
            case atStart => exact ⟨m, Nat.le_refl _, by omega, rfl, by rw [wantTo_start, Nat.sub_self]; exact hOw, hBq⟩
            case round =>
              obtain ⟨j, hj1, hj2, rfl, hOj, hBj⟩ := hrel
              clear hOw hBq
              by_cases hjk : j < k
              · have qj := ((unhide hBj).cell (p := ⟨b, off + j * 2 + 1, none⟩) hbr).trans ((unhide hCs).2 j hjk)
                have hnx : Hid (wantTo st W0 m (j + 1) = wantTo st W0 m j ++ [.int .i64 (st.getD j (0, 0)).2]) :=
                  hide (grow_take st W0 m j hj1 (by omega))
                generalize (st.getD j (0, 0)).2 = pj at *
                have hszj := (unhide hBj).size
                go_wp2_with (at_builtin; refine wpList_append_own _ rfl (.tmp 138) (.tmp 144) 22 rfl wo.heap.size 3 i0 (.int .i64 0) 1 8 Yba.underlying22 hi hz0 hz1 hz2 rfl (by decide) _ _ _ rfl ((unhide hOj).alloc _) ⟨wr.heap.size, 0, none⟩ 1 1 [.int .i64 pj] rfl rfl (fun j u hj => by match j, hj with | 0, hj => simp at hj; subst hj; exact new_cell _ rfl _ _) (fun u hu => by simp at hu; subst hu; rfl) (by unfold maxLen; omega) (by omega) (by simp; omega) ?_)
                intro v' w1 hown' hgrow _
                have R1 : Hid (w1.ownsRow wo.heap.size 3 1 v' (W0.length + (j + 1 - m)) (wantTo st W0 m (j + 1))) :=
                  hide (by rw [hnx.out, show W0.length + (j + 1 - m) = W0.length + (j - m) + 1 from by omega]; exact hown')
                have R2 : Hid (Below wo.heap.size wo w1) := hide (((unhide hBj).alloc (by omega) _).grown hgrow (by simp; omega) (fun k hk => ((unhide hOj).lt k hk).1))
                clear hOj hBj hown' hgrow qj hnx
                go_wp2
                go_roundw
                case rel => exact ⟨j + 1, by omega, by omega, by go_num, R1, R2⟩
                case measure => simp [intOf]; omega
              · obtain rfl : j = k := by omega
                obtain ⟨wq, rfl⟩ : ∃ wq : World, wq = wr := ⟨_, rfl⟩
                have hOk := unhide hOj
                rw [wantTo_end st W0 m j hst] at hOk
                have hs2 : (W0 ++ (st.drop m).map Prod.snd) = s.2 := by rw [unhide hFin]
                have hs1 : s.1 = last := by rw [unhide hFin]
                rw [hs2] at hOk
                have hsl : W0.length + (j - m) = s.2.length := by rw [← hs2]; simp [hst]
                rw [hsl] at hOk hOj
                have hpos : 0 < s.2.length := by omega
                obtain ⟨gv, capv, hv⟩ := own_form' hOk hpos
                have hbq := unhide hBj
                have hTl := (unhide hTs).lt
                have hgl := ((unhide hOs).lt g rfl).2
                have d3 := (hbq.cell (p := ⟨wc.heap.size, 3, none⟩) hTl).trans c3
                have d4 := (hbq.cell (p := ⟨wc.heap.size, 4, none⟩) hTl).trans c4
                rw [hs1] at d3
                have hA : Hid (∀ t, t < s.2.length → wq.cell? ⟨g, t, none⟩ = some (.int .i64 (s.2.getD t 0))) := by
                  intro t ht
                  rw [hbq.cell (p := ⟨g, t, none⟩) hgl, (unhide hOs).cellAt t (by omega)]
                  simp [ints, ht, List.getD]
                rw [hv] at hOk
                have hB : Hid (∀ t, t < s.2.length → wq.cell? ⟨gv, t, none⟩ = some (.int .i64 (s.2.getD t 0))) := by
                  intro t ht
                  rw [hOk.cellAt t (by omega)]
                  simp [ints, ht, List.getD]
                have hgvl := (hOk.lt gv rfl).2
                have hgl' : g < wq.heap.size := by have := hbq.size; omega
                have hTl' : wc.heap.size < wq.heap.size := by have := hbq.size; omega
                have hSl : s.2.length ≤ 2048 := by omega
                have hBw : Hid (Below w.heap.size w wq) := hide ((unhide hBs).trans (hbq.mono (by have := (unhide hBs).size; omega)))
                subst hv
                clear hOk hbq hOj hBj hTs hOs hBs c3 c4 hFin hs1 hs2 hsl
                generalize s.2 = L at *
                go_wp2_with fail
                go_loopw [25] (fun i wz => ∃ t : Nat, t ≤ L.length ∧ i = .int .i64 t ∧ Hid (Below wq.heap.size wq wz)) (fun i _ => L.length - (intOf i).toNat)
                case atStart => exact ⟨0, Nat.zero_le _, rfl, Below.refl _ _⟩
                case round =>
                  obtain ⟨t, ht, rfl, hBz⟩ := hrel
                  have x4 := ((unhide hBz).cell (p := ⟨wc.heap.size, 4, none⟩) hTl').trans d4
                  by_cases htl : t < L.length
                  · have x1 := ((unhide hBz).cell (p := ⟨g, t, none⟩) hgl').trans (unhide hA t htl)
                    have x2 := ((unhide hBz).cell (p := ⟨gv, t, none⟩) hgvl).trans (unhide hB t htl)
                    generalize L.getD t 0 = z at *
                    go_wp2
                    go_quiet (fail)
                    go_wp2
                    go_roundw
                    case rel => exact ⟨t + 1, by omega, by go_num, hide (below_drewN (unhide hBz) _)⟩
                    case measure => simp [intOf]; omega
                  · go_wp2
                    go_ret
                    exact ⟨rfl, (unhide hBw).trans ((unhide hBz).mono (by have := (unhide hBw).size; omega))⟩
        · have qm := (unhide hCs).1 (m - 1) (by omega)
          by_cases he : (st.getD (m - 1) (0, 0)).1 = last
          · rw [he] at qm
            have hr' : Hid (∀ j, m - 1 ≤ j → j < k → (st.getD j (0, 0)).1 = last) := by
              intro j h1 h2
              by_cases hj : j = m - 1
              · rw [hj]; exact he
              · exact unhide hrun j (by omega) h2
            clear he
            go_wp2
            go_round
            case rel => exact ⟨m - 1, by omega, by rw [show ((m - 1 : Nat) : Int) = (m : Int) - 1 from by omega], hr'⟩
            case measure => simp [intOf]; omega
          · have hFin := unhide hLaw last m (by omega) (by simpa [hst] using unhide hrun) (Or.inr he)
            rw [if_neg (fun h => hm0 h.1)] at hFin
            have hmb : ((m : Int) == 0) = false := beq_eq_false_iff_ne.2 (by omega)
            generalize (st.getD (m - 1) (0, 0)).1 = q at *
            have hqb : (q == last) = false := beq_eq_false_iff_ne.2 he
            have hFin := hide hFin
            obtain ⟨W0, hW0⟩ : ∃ W0 : List Int, W0 = [] := ⟨_, rfl⟩
            have hOw : Hid (wo.ownsRow wo.heap.size 3 1 (.slice none 0 0) W0.length (ints W0)) := by rw [hW0]; exact World.ownsRow_nil _ _ _ _
            have hBq : Hid (Below wo.heap.size wo wo) := Below.refl _ _
            rw [← hW0] at hFin
            have hWl : W0.length ≤ 1024 := by rw [hW0]; simp
            clear hW0
            go_wp2_with fail
            clear hCx hNone hLaw hLast hrun
            go_loopw [19, 24] (fun v i wq => ∃ j : Nat, m ≤ j ∧ j ≤ k ∧ i = .int .i64 j ∧ Hid (wq.ownsRow wo.heap.size 3 1 v (W0.length + (j - m)) (wantTo st W0 m j)) ∧ Hid (Below wo.heap.size wo wq)) (fun _ i _ => k - (intOf i).toNat)
            case atStart => exact ⟨m, Nat.le_refl _, by omega, rfl, by rw [wantTo_start, Nat.sub_self]; exact hOw, hBq⟩
            case round =>
              obtain ⟨j, hj1, hj2, rfl, hOj, hBj⟩ := hrel
              clear hOw hBq
              by_cases hjk : j < k
              · have qj := ((unhide hBj).cell (p := ⟨b, off + j * 2 + 1, none⟩) hbr).trans ((unhide hCs).2 j hjk)
                have hnx : Hid (wantTo st W0 m (j + 1) = wantTo st W0 m j ++ [.int .i64 (st.getD j (0, 0)).2]) :=
                  hide (grow_take st W0 m j hj1 (by omega))
                generalize (st.getD j (0, 0)).2 = pj at *
                have hszj := (unhide hBj).size
                go_wp2_with (at_builtin; refine wpList_append_own _ rfl (.tmp 138) (.tmp 144) 22 rfl wo.heap.size 3 i0 (.int .i64 0) 1 8 Yba.underlying22 hi hz0 hz1 hz2 rfl (by decide) _ _ _ rfl ((unhide hOj).alloc _) ⟨wr.heap.size, 0, none⟩ 1 1 [.int .i64 pj] rfl rfl (fun j u hj => by match j, hj with | 0, hj => simp at hj; subst hj; exact new_cell _ rfl _ _) (fun u hu => by simp at hu; subst hu; rfl) (by unfold maxLen; omega) (by omega) (by simp; omega) ?_)
                intro v' w1 hown' hgrow _
                have R1 : Hid (w1.ownsRow wo.heap.size 3 1 v' (W0.length + (j + 1 - m)) (wantTo st W0 m (j + 1))) :=
                  hide (by rw [hnx.out, show W0.length + (j + 1 - m) = W0.length + (j - m) + 1 from by omega]; exact hown')
                have R2 : Hid (Below wo.heap.size wo w1) := hide (((unhide hBj).alloc (by omega) _).grown hgrow (by simp; omega) (fun k hk => ((unhide hOj).lt k hk).1))
                clear hOj hBj hown' hgrow qj hnx
                go_wp2
                go_roundw
                case rel => exact ⟨j + 1, by omega, by omega, by go_num, R1, R2⟩
                case measure => simp [intOf]; omega
              · obtain rfl : j = k := by omega
                obtain ⟨wq, rfl⟩ : ∃ wq : World, wq = wr := ⟨_, rfl⟩
                have hOk := unhide hOj
                rw [wantTo_end st W0 m j hst] at hOk
                have hs2 : (W0 ++ (st.drop m).map Prod.snd) = s.2 := by rw [unhide hFin]
                have hs1 : s.1 = last := by rw [unhide hFin]
                rw [hs2] at hOk
                have hsl : W0.length + (j - m) = s.2.length := by rw [← hs2]; simp [hst]
                rw [hsl] at hOk hOj
                have hpos : 0 < s.2.length := by omega
                obtain ⟨gv, capv, hv⟩ := own_form' hOk hpos
                have hbq := unhide hBj
                have hTl := (unhide hTs).lt
                have hgl := ((unhide hOs).lt g rfl).2
                have d3 := (hbq.cell (p := ⟨wc.heap.size, 3, none⟩) hTl).trans c3
                have d4 := (hbq.cell (p := ⟨wc.heap.size, 4, none⟩) hTl).trans c4
                rw [hs1] at d3
                have hA : Hid (∀ t, t < s.2.length → wq.cell? ⟨g, t, none⟩ = some (.int .i64 (s.2.getD t 0))) := by
                  intro t ht
                  rw [hbq.cell (p := ⟨g, t, none⟩) hgl, (unhide hOs).cellAt t (by omega)]
                  simp [ints, ht, List.getD]
                rw [hv] at hOk
                have hB : Hid (∀ t, t < s.2.length → wq.cell? ⟨gv, t, none⟩ = some (.int .i64 (s.2.getD t 0))) := by
                  intro t ht
                  rw [hOk.cellAt t (by omega)]
                  simp [ints, ht, List.getD]
                have hgvl := (hOk.lt gv rfl).2
                have hgl' : g < wq.heap.size := by have := hbq.size; omega
                have hTl' : wc.heap.size < wq.heap.size := by have := hbq.size; omega
                have hSl : s.2.length ≤ 2048 := by omega
                have hBw : Hid (Below w.heap.size w wq) := hide ((unhide hBs).trans (hbq.mono (by have := (unhide hBs).size; omega)))
                subst hv
                clear hOk hbq hOj hBj hTs hOs hBs c3 c4 hFin hs1 hs2 hsl
                generalize s.2 = L at *
                go_wp2_with fail
                go_loopw [25] (fun i wz => ∃ t : Nat, t ≤ L.length ∧ i = .int .i64 t ∧ Hid (Below wq.heap.size wq wz)) (fun i _ => L.length - (intOf i).toNat)
                case atStart => exact ⟨0, Nat.zero_le _, rfl, Below.refl _ _⟩
                case round =>
                  obtain ⟨t, ht, rfl, hBz⟩ := hrel
                  have x4 := ((unhide hBz).cell (p := ⟨wc.heap.size, 4, none⟩) hTl').trans d4
                  by_cases htl : t < L.length
                  · have x1 := ((unhide hBz).cell (p := ⟨g, t, none⟩) hgl').trans (unhide hA t htl)
                    have x2 := ((unhide hBz).cell (p := ⟨gv, t, none⟩) hgvl).trans (unhide hB t htl)
                    generalize L.getD t 0 = z at *
                    go_wp2
                    go_quiet (fail)
                    go_wp2
                    go_roundw
                    case rel => exact ⟨t + 1, by omega, by go_num, hide (below_drewN (unhide hBz) _)⟩
                    case measure => simp [intOf]; omega
                  · go_wp2
                    go_ret
                    exact ⟨rfl, (unhide hBw).trans ((unhide hBz).mono (by have := (unhide hBw).size; omega))⟩
end Go.Proofs.Ybulkbzeg
