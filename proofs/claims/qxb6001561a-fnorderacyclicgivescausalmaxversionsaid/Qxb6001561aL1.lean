import Derived.Test.Qxb6001561aA3
import Derived.Test.Qxb6001561aB1
import Derived.Test.Qxb6001561aP2
import Derived.Test.Qxb6001561aZ1
namespace Go.Proofs.Qxb6001561a
set_option linter.unusedVariables false
set_option linter.unusedSimpArgs false
open Go.RowKit Go.Maps

theorem kindOf_kindV (n1 : Nat) (p : Nat → Bool) (j : Nat) : kindOf n1 p j = kindV (decide (j < n1 ∧ p j = true)) := by
  unfold kindOf kindV
  by_cases h : j < n1 ∧ p j = true
  · rw [if_pos h, if_pos (by simpa using h)]
  · rw [if_neg h, if_neg (by simpa using h)]

/-- what zzBuild_hb1 has laid, as ZZOrder wants it; no sources -/
theorem laid_of_BI {w wr : World} {B n n1 n2 : Nat} {s : Nat → Nat} {p : Nat → Bool} {ve : Nat → Int} {S sv : Nat → Value} (h : BI w B n (kOf s n) n1 n2 0 s p ve S n n n n n sv wr) :
    Laid wr (Hof n n1 n2 s p ve (fun _ => [])) (B + 2) (B + 6) (B + 3) (B + 4) (B + 5) sv (fun _ => none) (fun _ => 0) := by
  obtain ⟨c, hc, _, hv⟩ := h.ops
  refine ⟨fun j hj => ?_, fun q hq => h.seqs.cell hq, fun q hq => ?_, fun j hj => ?_, fun j hj => ?_, fun j hj => ?_, fun j hj => SlAt.nil _ _⟩
  · rw [cell_of_row wr _ _ _ _ _ hc, cell_of_row wr _ _ _ _ _ hc]
    have := hv j hj
    rw [kindOf_kindV] at this
    exact this
  · have hr := h.rows q hq
    rcases QAt.of_owns hr with ⟨e1, e2⟩ | ⟨b, off, cap, e1, _, _, _, e2⟩
    · rw [e1]
      show SlAt wr _ (seqOf s n q).length _
      rw [e2]
      exact SlAt.nil _ _
    · exact ⟨_, _, e1, fun _ => ⟨b, off, rfl, e2⟩⟩
  · have hj' : j < n := hj
    have := h.sess.cell hj'
    rw [if_pos hj'] at this; exact this
  · have hj' : j < n := hj
    have := h.place.cell hj'
    rw [if_pos hj'] at this; exact this
  · have := h.srcs.cell hj
    rw [if_neg (by omega)] at this; exact this

theorem Laid.below {w w' : World} {H : Hist} {b1 b2 b3 b4 b5 : Nat} {sv : Nat → Value} {A : Nat → Option Addr} {C : Nat → Nat} (h : Laid w H b1 b2 b3 b4 b5 sv A C) (hb : Below w.heap.size w w') : Laid w' H b1 b2 b3 b4 b5 sv A C :=
  ⟨fun j hj => ⟨cell_below (B := 0) hb (h.ops j hj).1, cell_below (B := 0) hb (h.ops j hj).2⟩, fun q hq => cell_below (B := 0) hb (h.seqs q hq), fun q hq => (h.seq q hq).below hb, fun j hj => cell_below (B := 0) hb (h.sess j hj),
    fun j hj => cell_below (B := 0) hb (h.place j hj), fun j hj => cell_below (B := 0) hb (h.srcs j hj), fun j hj => (h.src j hj).below hb⟩

theorem J1.inv {H : Hist} (hS : SeqOK H) (hsrc : ∀ i, H.src i = []) (hH : HistOK H) : Inv H (J1 H) :=
  ⟨J1.start H, fun st s q hs _ h => h.turn hS hsrc hH hs, fun st s hs _ h hlt => by
    obtain ⟨c, hc, hq, hd, _⟩ := h.ex
    have : H.k ≤ c := by
      rcases Nat.lt_or_ge c H.k with h1 | h1
      · have := congrArg List.length hq
        simp at this; omega
      · exact h1
    have := hd s (by omega)
    omega⟩

theorem clone9c (v : Value) (n : Nat) (f : Nat → Int) (w : World) (hn : n ≤ 1048576) (h : SlAt w v n (fun j => .int .i64 (f j))) {R : Ending → World → Prop}
    (hR : ∀ v' w', SlAt w' v' n (fun j => .int .i64 (f j)) → Below w.heap.size w w' → R (.returned v') w') : Calls Try.prog 9 #[v] w R :=
  (clone9 v n f w hn h).mono fun e w' ⟨v', he, h1, h2⟩ => by subst he; exact hR v' w' h1 h2
theorem clone10c (v : Value) (n : Nat) (f : Nat → Bool) (w : World) (hn : n ≤ 1048576) (h : SlAt w v n (fun j => .bool (f j))) {R : Ending → World → Prop}
    (hR : ∀ v' w', SlAt w' v' n (fun j => .bool (f j)) → Below w.heap.size w w' → R (.returned v') w') : Calls Try.prog 10 #[v] w R :=
  (clone10 v n f w hn h).mono fun e w' ⟨v', he, h1, h2⟩ => by subst he; exact hR v' w' h1 h2
theorem clone11c (v : Value) (n : Nat) (f : Nat → Int) (w : World) (hn : n ≤ 1048576) (h : SlAt w v n (fun j => .int .u64 (f j))) {R : Ending → World → Prop}
    (hR : ∀ v' w', SlAt w' v' n (fun j => .int .u64 (f j)) → Below w.heap.size w w' → R (.returned v') w') : Calls Try.prog 11 #[v] w R :=
  (clone11 v n f w hn h).mono fun e w' ⟨v', he, h1, h2⟩ => by subst he; exact hR v' w' h1 h2

theorem zz14 {H : Hist} {n k : Nat} (hn : H.n = n) (hk : H.k = k) {w : World} {bops bseqs bsess bplace bsi : Nat} {sv : Nat → Value} {A : Nat → Option Addr} {C : Nat → Nat} (hH : HistOK H) (hL : Laid w H bops bseqs bsess bplace bsi sv A C) {J : St → List Nat → Prop} (hJ : Inv H J) {R : Ending → World → Prop}
    (hR : ∀ st vo bh w', J st [] → WF H st 0 → (∀ s, s < k → ¬ st.next s < (H.seq s).length) → SlAt w' vo st.ord.length (fun t => .int .i64 (st.ord.getD t 0 : Nat)) → w'.rowIs bh 40 n (fun j => .int .u64 (st.high j)) → Below w.heap.size w w' →
      R (.returned (.tuple #[vo, .slice (some ⟨bh, 0, none⟩) n n])) w') :
    Calls Try.prog 14 #[.slice (some ⟨bops, 0, none⟩) n n, .slice (some ⟨bseqs, 0, none⟩) k k, .slice (some ⟨bsess, 0, none⟩) n n, .slice (some ⟨bplace, 0, none⟩) n n, .slice (some ⟨bsi, 0, none⟩) n n] w R := by
  subst hn hk
  exact zzorder14 hH hL hJ hR

/-- the sessions' operations, one session behind the other: where each stands -/
theorem flat_get (g : Nat → List Nat) : ∀ (k q t : Nat), q < k → t < (g q).length → ((List.range k).flatMap g).getD (sumL (fun x => (g x).length) q + t) 0 = (g q).getD t 0
  | 0, q, t, h, _ => absurd h (Nat.not_lt_zero q)
  | k + 1, q, t, h, ht => by
    have hl : ∀ m, ((List.range m).flatMap g).length = sumL (fun x => (g x).length) m := by
      intro m
      induction m with
      | zero => rfl
      | succ m ih => rw [List.range_succ, List.flatMap_append, List.length_append, ih]; simp [sumL]
    rw [List.range_succ, List.flatMap_append]
    by_cases e : q = k
    · subst e
      rw [getD_app_right (by rw [hl]; omega), hl]
      simp
    · have h1 := flat_get g k q t (by omega) ht
      rw [getD_app_left, h1]
      rw [hl]
      have h2 := sumL_mono (fun x => (g x).length) (show q + 1 ≤ k by omega)
      simp only [sumL] at h2
      omega
theorem flat_length (g : Nat → List Nat) (m : Nat) : ((List.range m).flatMap g).length = sumL (fun x => (g x).length) m := by
  induction m with
  | zero => rfl
  | succ m ih => rw [List.range_succ, List.flatMap_append, List.length_append, ih]; simp [sumL]

theorem bestSucc (H : Hist) (s : Nat → Nat) (i q : Nat) : bestPre H (seqOf s (i + 1) q) = if s i = q then (if H.put i then max (bestPre H (seqOf s i q)) (H.ver i) else bestPre H (seqOf s i q)) else bestPre H (seqOf s i q) := by
  by_cases e : s i = q
  · subst e; rw [if_pos rfl, seqOf_succ_same, bestPre_snoc]
  · rw [if_neg e, seqOf_succ_other _ _ _ (fun h => e h.symm)]

set_option maxRecDepth 100000 in
set_option maxHeartbeats 4000000 in
theorem law5 (v0 v1 v2 : Value) (n n1 n2 : Nat) (f : Nat → Int) (p : Nat → Bool) (ve : Nat → Int) (w : World) (hn : n ≤ maxLen) (hn1 : n1 ≤ maxLen) (hn2 : n2 ≤ maxLen) (hve : ∀ j, j < n2 → 0 ≤ ve j ∧ ve j ≤ 18446744073709551615)
    (h0 : SlAt w v0 n (fun j => .int .i64 (f j))) (h1 : SlAt w v1 n1 (fun j => .bool (p j))) (h2 : SlAt w v2 n2 (fun j => .int .u64 (ve j))) {R : Ending → World → Prop}
    (hR : ∀ w', Below w.heap.size w w' → R (.returned (.bool true)) w') : Calls Try.prog 5 #[v0, v1, v2] w R := by
  have HR : Hid _ := hR
  clear hR
  obtain ⟨a0, c0, e0, _⟩ := id h0
  obtain ⟨a1, c1, e1, _⟩ := id h1
  obtain ⟨a2, c2, e2, _⟩ := id h2
  subst e0 e1 e2
  go_enter Try.func5, Try.ntmps5
  go_wp2_with (fail)
  refine bytes19 a0 a1 a2 n n1 n2 c0 c1 c2 hn hn1 hn2 w ?_
  intro b
  cases b
  · go_wp2
    exact HR.out _ (Below.refl _ _)
  go_wp2_with (fail)
  refine size7 a0 a1 a2 n n1 n2 c0 c1 c2 _ 0 (fun _ => 0) (fun _ _ => 0) hn hn1 hn2 (Nat.zero_le _) (fun r hr => absurd hr (Nat.not_lt_zero r)) w (RowsAt.nil _ _ _) ?_
  intro b hb
  cases b
  · go_wp2
    exact HR.out _ (Below.refl _ _)
  have hsz := hb rfl
  unfold SizeOK at hsz
  clear hb
  have hn' : n ≤ 1048576 := by omega
  have hn1' : n1 ≤ 1048576 := by omega
  have hn2' : n2 ≤ 1048576 := by omega
  clear hsz
  go_wp2_with (fail)
  refine well8 _ _ n 0 f (fun _ => 0) (fun _ _ => 0) hn' (Nat.zero_le _) (fun r hr => absurd hr (Nat.not_lt_zero r)) w h0 (RowsAt.nil _ _ _) ?_
  intro b hb
  cases b
  · go_wp2
    exact HR.out _ (Below.refl _ _)
  have hwf := (hb rfl).1
  clear hb
  obtain ⟨s, hs⟩ : ∃ s : Nat → Nat, ∀ j, j < n → f j = (s j : Int) ∧ s j < n := ⟨fun j => (f j).toNat, fun j hj => by have := hwf j hj; show f j = ((f j).toNat : Int) ∧ (f j).toNat < n; omega⟩
  have h0' : SlAt w (.slice a0 n c0) n (fun j => .int .i64 (s j : Nat)) := h0.congr (fun j hj => by rw [(hs j hj).1])
  have hsn : ∀ j, j < n → s j < n := fun j hj => (hs j hj).2
  clear hs hwf h0
  go_wp2_with (fail)
  refine clone9c _ n (fun j => (s j : Nat)) w hn' h0' ?_
  intro x0 w1 g0 b1
  go_wp2_with (fail)
  refine clone10c _ n1 p w1 hn1' (h1.below b1) ?_
  intro x1 w2 g1 b2
  go_wp2_with (fail)
  refine clone11c _ n2 ve w2 hn2' ((h2.below b1).below b2) ?_
  intro x2 w3 g2 b3
  clear h0' h1 h2
  go_wp2_with (fail)
  refine build13 x0 x1 x2 _ n n1 n2 0 s p ve (fun _ => none) (fun _ => 0) (fun _ => 0) w3 hn' hn1' hn2' (Nat.zero_le _) hsn ((g0.below b2).below b3) (g1.below b3) g2 (SlAt.nil _ _) ?_
  intro sv w4 hBI
  have hb4 : Below w.heap.size w w4 := (b1.trans (b2.mono b1.size)).trans ((b3.mono (Nat.le_trans b1.size b2.size)).trans (hBI.bel.mono (Nat.le_trans b1.size (Nat.le_trans b2.size b3.size))))
  have hz0 : SlAt w4 x0 n (fun j => .int .i64 (s j : Nat)) := ((g0.below b2).below b3).below hBI.bel
  have hlaid := laid_of_BI hBI
  obtain ⟨H, hHd⟩ : ∃ H, H = Hof n n1 n2 s p ve (fun _ => []) := ⟨_, rfl⟩
  have hHok : HistOK H := by rw [hHd]; exact Hof.ok hn' hsn hve (fun i _ x hx => by cases hx) (fun i _ => Nat.zero_le _)
  have hSok : SeqOK H := by rw [hHd]; exact Hof.seqOK
  have hsrc : ∀ i, H.src i = [] := fun i => by rw [hHd]; rfl
  rw [← hHd] at hlaid
  clear g0 g1 g2 b1 b2 b3 hBI hn hn1 hn2
  have hHn : H.n = n := by rw [hHd]; rfl
  have hHk : H.k = kOf s n := by rw [hHd]; rfl
  have hseq : ∀ q, H.seq q = seqOf s n q := fun q => by rw [hHd]; rfl
  have hkn : kOf s n ≤ n := kOf_le s n hsn n (Nat.le_refl n)
  have hb5 : Below w4.heap.size w4 (w4.alloc (.cells #[.slice (some ⟨w3.heap.size + 2, 0, none⟩) n n, .slice (some ⟨w3.heap.size + 6, 0, none⟩) (kOf s n) (kOf s n), .slice (some ⟨w3.heap.size + 3, 0, none⟩) n n, .slice (some ⟨w3.heap.size + 4, 0, none⟩) n n, .slice (some ⟨w3.heap.size + 5, 0, none⟩) n n] 34)) := (Below.refl _ _).alloc (Nat.le_refl _) _
  have HHD : Hid _ := hHd
  have HHN : Hid _ := hHn
  have HHK : Hid _ := hHk
  have HSEQ : Hid _ := hseq
  clear hHd hHn hHk hseq
  go_wp2_with (fail)
  refine zz14 HHN.out HHK.out hHok (hlaid.below hb5) (J1.inv hSok hsrc hHok) ?_
  intro st vo bh w5 hj hwf hfin ho hhi hb6
  have hb7 := hb5.trans (hb6.mono hb5.size)
  have hlaid5 := (hlaid.below hb5).below hb6
  obtain ⟨c, hc, hq, hd, _, hord, _, hhigh⟩ := hj.ex
  have hck : c = kOf s n := by
    rw [HHK.out] at hc hq
    rcases Nat.lt_or_ge c (kOf s n) with h1 | h1
    · have := congrArg List.length hq
      simp at this; omega
    · omega
  subst hck
  have hol : st.ord.length = n := by
    rw [hord, flat_length, sumL_congr (kOf s n) (fun j _ => by rw [HSEQ.out j])]
    exact seqOf_total s (kOf s n) n (fun j hj => lt_kOf s n j hj)
  rw [hol] at ho
  -- what the rest reads
  have hst : ∀ j, j < 5 → w5.cell? ⟨w4.heap.size, j, none⟩ = (#[Value.slice (some ⟨w3.heap.size + 2, 0, none⟩) n n, .slice (some ⟨w3.heap.size + 6, 0, none⟩) (kOf s n) (kOf s n), .slice (some ⟨w3.heap.size + 3, 0, none⟩) n n, .slice (some ⟨w3.heap.size + 4, 0, none⟩) n n, .slice (some ⟨w3.heap.size + 5, 0, none⟩) n n] : Array Value)[j]? := fun j hj => by
    rw [hb6.cell (by simp), cell_of_row _ _ _ _ _ _ (Go.Deep.blk_alloc_new _ _)]
  have k0 := hst 0 (by omega)
  have k1 := hst 1 (by omega)
  clear hst
  have htot : sumL (fun x => (H.seq x).length) (kOf s n) = n := by
    rw [sumL_congr (kOf s n) (fun j _ => by rw [HSEQ.out j])]
    exact seqOf_total s (kOf s n) n (fun j hj => lt_kOf s n j hj)
  have hordg : ∀ q t, q < kOf s n → t < (H.seq q).length → st.ord.getD (sumL (fun x => (H.seq x).length) q + t) 0 = (H.seq q).getD t 0 := fun q t hq ht => by
    rw [hord]; exact flat_get _ _ _ _ hq ht
  have hhg : ∀ i, i < n → st.high i = bestPre H (seqOf s (i + 1) (s i)) := fun i hi => by
    obtain ⟨z1, z2, z3⟩ := seqOf_at (s := s) hi
    have := hhigh (s i) (lt_kOf s n i hi) (seqOf s i (s i)).length (by rw [HSEQ.out]; exact z1)
    rw [HSEQ.out, z2, z3] at this
    exact this
  have hsq : ∀ q, q < kOf s n → w5.cell? ⟨w3.heap.size + 6, q, none⟩ = some (sv q) ∧ SlAt w5 (sv q) (H.seq q).length (fun t => .int .i64 ((H.seq q).getD t 0 : Nat)) := fun q hq => by
    rw [← HHK.out] at hq
    exact ⟨hlaid5.seqs q hq, hlaid5.seq q hq⟩
  have hopc : ∀ i, i < n → w5.cell? ⟨w3.heap.size + 2, i * 10 + 2, none⟩ = some (kindV (H.put i)) ∧ w5.cell? ⟨w3.heap.size + 2, i * 10 + 4, none⟩ = some (.int .u64 (H.ver i)) := fun i hi => by
    rw [← HHN.out] at hi
    exact hlaid5.ops i hi
  have hverb : ∀ i, i < n → 0 ≤ H.ver i ∧ H.ver i ≤ 18446744073709551615 := fun i _ => hHok.verOk i
  have hsk : ∀ i, i < n → s i < kOf s n := fun i hi => lt_kOf s n i hi
  have hz5 : SlAt w5 x0 n (fun j => .int .i64 (s j : Nat)) := (hz0.below hb5).below hb6
  have hb9 : Below w.heap.size w w5 := hb4.trans (hb7.mono hb4.size)
  obtain ⟨ax, cx, ex, hxc⟩ := hz5
  obtain ⟨avo, cvo, evo, hvc⟩ := ho
  subst ex evo
  have hhl := hhi.lt
  clear hz0 hlaid hlaid5 hb5 hb6 hb7 hb4 hhigh hord hd hq hc hfin hwf hj hol hSok hsrc hHok hve hsn
  generalize kOf s n = K at *
  have mk := run_make_row' (P := Try.prog) 24 40 (.int .u64 0) 8 Try.underlying24 Try.info40 rfl .i64 .i64 K (by omega) (by omega)
  go_wp2
  go_loopg [11, 12] K (fun g jv qv wr => ∃ q : Nat, q ≤ K ∧ g = K - q ∧ jv = .int .i64 (sumL (fun x => (H.seq x).length) q : Nat) ∧ qv = .int .i64 (q : Nat) ∧ Below w5.heap.size w5 wr)
  case atStart => exact ⟨0, Nat.zero_le _, rfl, rfl, rfl, Below.refl _ _⟩
  case round =>
    obtain ⟨q, hqK, rfl, rfl, rfl, hbr⟩ := hrel
    by_cases hlt : q < K
    · have y1 := cell_below (B := 0) hbr k1
      obtain ⟨y2', hsl⟩ := hsq q hlt
      have y2 := cell_below (B := 0) hbr y2'
      obtain ⟨aq, cq, eq, hcq⟩ := hsl
      rw [eq] at y2 y2'
      have hsum : sumL (fun x => (H.seq x).length) q + (H.seq q).length ≤ n := by
        have h2 := sumL_mono (fun x => (H.seq x).length) (show q + 1 ≤ K by omega)
        simp only [sumL] at h2
        omega
      have hsumE : sumL (fun x => (H.seq x).length) (q + 1) = sumL (fun x => (H.seq x).length) q + (H.seq q).length := rfl
      have HSE : Hid _ := hsumE
      obtain ⟨J0, hJ0⟩ : ∃ J0, J0 = sumL (fun x => (H.seq x).length) q := ⟨_, rfl⟩
      obtain ⟨m, hm⟩ : ∃ m, m = (H.seq q).length := ⟨_, rfl⟩
      have hog : ∀ t, t < m → st.ord.getD (J0 + t) 0 = (H.seq q).getD t 0 := fun t ht => by rw [hJ0]; exact hordg q t hlt (by omega)
      rw [← hJ0, ← hm] at hsum HSE
      rw [← hm] at y2 y2' hcq
      rw [← hJ0]
      clear hJ0 hm eq hsumE
      go_wp2
      go_loopg [11, 13] m (fun g jv tv wr => ∃ t : Nat, t ≤ m ∧ g = m - t ∧ jv = .int .i64 (J0 + t : Nat) ∧ tv = .int .i64 (t : Nat) ∧ Below w5.heap.size w5 wr)
      case atStart => exact ⟨0, Nat.zero_le _, rfl, rfl, rfl, hbr⟩
      case round =>
        obtain ⟨t, htm, rfl, rfl, rfl, hbr2⟩ := hrel
        have y5 := cell_below (B := 0) hbr2 k1
        have y6 := cell_below (B := 0) hbr2 y2'
        by_cases hlt2 : t < m
        · obtain ⟨b1, o1, rfl, z1⟩ := hcq (by omega)
          obtain ⟨b2, o2, rfl, z2⟩ := hvc (by omega)
          have y3 := cell_below (B := 0) hbr2 (z1 t hlt2)
          have y4 := cell_below (B := 0) hbr2 (z2 (J0 + t) (by omega))
          rw [hog t hlt2] at y4
          generalize (H.seq q).getD t 0 = X at y3 y4
          go_wp2
          go_quiet (fail)
          go_wp2
          go_roundg (m - (t + 1))
          case measure => omega
          case rel => exact ⟨t + 1, by omega, rfl, by go_num, by go_num, below_drewN hbr2 _⟩
        · have htm' : t = m := by omega
          have HTM : Hid _ := htm'
          clear htm'
          go_wp2
          go_roundg (K - (q + 1))
          case measure => omega
          case rel => exact ⟨q + 1, by omega, rfl, by rw [HSE.out, HTM.out], by go_num, hbr2⟩
    · have y1 := cell_below (B := 0) hbr k1
      go_wp2
      have hrow0 : (wr.alloc (.cells (madeCells #[.int .u64 0] K) 40)).rowIs wr.heap.size 40 K (fun q => .int .u64 (bestPre H (seqOf s 0 q))) := World.rowIs_made _ _ _ _
      have hbr0 := hbr.alloc hbr.size (.cells (madeCells #[.int .u64 0] K) 40)
      have hBge := hbr.size
      generalize wr.heap.size = B at hrow0 hBge ⊢
      generalize wr.alloc (.cells (madeCells #[.int .u64 0] K) 40) = wr1 at hrow0 hbr0 ⊢
      clear y1 hbr
      go_loopg [15] n (fun g iv wr => ∃ i : Nat, i ≤ n ∧ g = n - i ∧ iv = .int .i64 (i : Nat) ∧ Below w5.heap.size w5 wr ∧ wr.rowIs B 40 K (fun q => .int .u64 (bestPre H (seqOf s i q))))
      case atStart => exact ⟨0, Nat.zero_le _, rfl, rfl, hbr0, hrow0⟩
      case round =>
        clear hbr0 hrow0
        obtain ⟨i, hin, rfl, rfl, hbr, hrow⟩ := hrel
        by_cases hlt : i < n
        · obtain ⟨b1, o1, rfl, z1⟩ := hxc (by omega)
          have z1 := cell_below (B := 0) hbr (z1 i hlt)
          have z2 := cell_below (B := 0) hbr k0
          have z3 := cell_below (B := 0) hbr (hopc i hlt).1
          have z4 := cell_below (B := 0) hbr (hopc i hlt).2
          have hsi := hsk i hlt
          have z5 := hrow.cell hsi
          have z6 := hrow.frozen (s i)
          have z7 := cell_below (B := 0) hbr (hhi.cell hlt)
          have hBlt := hrow.lt
          rw [hhg i hlt, bestSucc] at z7
          rw [if_pos rfl] at z7
          have hrow' : ∀ X, X = (if H.put i then max (bestPre H (seqOf s i (s i))) (H.ver i) else bestPre H (seqOf s i (s i))) → (wr.setCell ⟨B, s i, none⟩ (.int .u64 X)).rowIs B 40 K (fun q => .int .u64 (bestPre H (seqOf s (i + 1) q))) := fun X hX => by
            refine (hrow.set (s i) _).congr (fun q _ => ?_)
            rw [bestSucc, hX]
            by_cases e : q = s i
            · subst e; simp
            · rw [if_neg e, if_neg (fun e' => e e'.symm)]
          have hrow2 : bestPre H (seqOf s i (s i)) = (if H.put i then max (bestPre H (seqOf s i (s i))) (H.ver i) else bestPre H (seqOf s i (s i))) → wr.rowIs B 40 K (fun q => .int .u64 (bestPre H (seqOf s (i + 1) q))) := fun hX => by
            refine hrow.congr (fun q _ => ?_)
            rw [bestSucc]
            by_cases e : s i = q
            · subst e; rw [if_pos rfl, ← hX]
            · rw [if_neg e]
          have HROW' : Hid _ := hrow'
          have HROW2 : Hid _ := hrow2
          clear hrow' hrow2
          generalize hXd : bestPre H (seqOf s i (s i)) = X at z5 z7 HROW' HROW2
          cases hput : H.put i
          · rw [hput] at z3 z7 HROW2
            simp only [Bool.false_eq_true, if_false] at z7
            rw [show kindV false = .string ⟨#[103, 101, 116]⟩ from rfl] at z3
            go_wp2
            go_quiet (fail)
            go_wp2
            go_quiet (fail)
            go_wp2
            go_roundg (n - (i + 1))
            case measure => omega
            case rel => exact ⟨i + 1, by omega, rfl, by go_num, below_drewN hbr _, HROW2.out rfl⟩
          · rw [hput] at z3 z7 HROW2 HROW'
            simp only [if_true] at z7
            rw [show kindV true = .string ⟨#[112, 117, 116]⟩ from rfl] at z3
            by_cases hgt : X < H.ver i
            · have hmx : max X (H.ver i) = H.ver i := by omega
              rw [hmx] at z7 HROW'
              generalize hVd : H.ver i = V at *
              go_wp2
              go_quiet (fail)
              go_wp2
              have hrN : ((wr.drewN nq).setCell ⟨B, s i, none⟩ (.int .u64 V)).rowIs B 40 K (fun q => .int .u64 (bestPre H (seqOf s (i + 1) q))) := HROW'.out V rfl
              have hbN : Below w5.heap.size w5 ((wr.drewN nq).setCell ⟨B, s i, none⟩ (.int .u64 V)) := (below_drewN hbr _).setCell hBge _
              have z8 := hrN.cell hsi
              have z9 := cell_below (B := 0) hbN (hhi.cell hlt)
              rw [hhg i hlt, bestSucc, if_pos rfl, hput, hXd, if_pos rfl, hVd, hmx] at z9
              rw [bestSucc, if_pos rfl, hput, hXd, if_pos rfl, hVd, hmx] at z8
              generalize (wr.drewN nq).setCell ⟨B, s i, none⟩ (.int .u64 V) = wr2 at hrN hbN z8 z9 ⊢
              go_quiet (fail)
              go_wp2
              go_roundg (n - (i + 1))
              case measure => omega
              case rel => exact ⟨i + 1, by omega, rfl, by go_num, below_drewN hbN _, hrN⟩
            · have hmx : max X (H.ver i) = X := by omega
              rw [hmx] at z7 HROW2
              generalize hVd : H.ver i = V at *
              go_wp2
              go_quiet (fail)
              go_wp2
              go_quiet (fail)
              go_wp2
              go_roundg (n - (i + 1))
              case measure => omega
              case rel => exact ⟨i + 1, by omega, rfl, by go_num, below_drewN hbr _, HROW2.out rfl⟩
        · go_wp2
          exact HR.out _ (hb9.trans (hbr.mono hb9.size))
end Go.Proofs.Qxb6001561a
