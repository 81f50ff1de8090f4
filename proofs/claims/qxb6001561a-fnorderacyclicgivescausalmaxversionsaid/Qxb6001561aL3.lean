import Derived.Test.Qxb6001561aL2
import Derived.Test.Qxb6001561aC1
namespace Go.Proofs.Qxb6001561a
set_option linter.unusedVariables false
set_option linter.unusedSimpArgs false
open Go.RowKit Go.Maps

theorem Hof.back {n n1 n2 : Nat} {s : Nat → Nat} {p : Nat → Bool} {ve : Nat → Int} {src : Nat → List Nat} (h : ∀ i, i < n → ∀ x, x ∈ src i → x < i) : Back (Hof n n1 n2 s p ve src) where
  src := h
  seq := fun q _ => seqOf_mono s n q
  prev := fun i hi hp => by
    have hp' : 1 < placeOf s i := hp
    have hpl : placeOf s i = (seqOf s i (s i)).length + 1 := by unfold placeOf; rw [seqOf_succ_same, List.length_append]; rfl
    rw [hpl] at hp'
    show (seqOf s n (s i)).getD (placeOf s i - 2) 0 < i
    obtain ⟨r, hr⟩ := seqOf_prefix s (s i) i n (Nat.le_of_lt hi)
    rw [hpl, hr, prefix_getD (by omega)]
    exact (mem_seqOf.1 (getD_mem' (by omega))).1
  all := Hof.all

theorem Try.info34 : (Try.prog.info? 34).map (·.size) = some 5 := by kernel_rfl

theorem CIn.below {w w' : World} {H : Hist} {n K b1 b2 b3 : Nat} (h : CIn w H n K b1 b2 b3) (hb : Below w.heap.size w w') : CIn w' H n K b1 b2 b3 :=
  ⟨fun j hj => ⟨cell_below (B := 0) hb (h.ops j hj).1, cell_below (B := 0) hb (h.ops j hj).2⟩, fun j hj => cell_below (B := 0) hb (h.sess j hj), fun i hi => by
    obtain ⟨A, C, h1, h2⟩ := h.src i hi
    exact ⟨A, C, cell_below (B := 0) hb h1, h2.below hb⟩, h.srcLen, h.sessLt, h.srcLt⟩

set_option maxRecDepth 100000 in
set_option maxHeartbeats 4000000 in
theorem law4 (v0 v1 v2 v3 : Value) (n n1 n2 m : Nat) (f : Nat → Int) (p : Nat → Bool) (ve : Nat → Int) (L : Nat → Nat) (g : Nat → Nat → Int) (w : World) (hn : n ≤ maxLen) (hn1 : n1 ≤ maxLen) (hn2 : n2 ≤ maxLen) (hm : m ≤ maxLen) (hLm : ∀ r, r < m → L r ≤ maxLen) (hve : ∀ j, j < n2 → 0 ≤ ve j ∧ ve j ≤ 18446744073709551615)
    (h0 : SlAt w v0 n (fun j => .int .i64 (f j))) (h1 : SlAt w v1 n1 (fun j => .bool (p j))) (h2 : SlAt w v2 n2 (fun j => .int .u64 (ve j))) (h3 : RowsAt w v3 m L g) {R : Ending → World → Prop}
    (hR : ∀ w', Below w.heap.size w w' → R (.returned (.bool true)) w') : Calls Try.prog 4 #[v0, v1, v2, v3] w R := by
  have HR : Hid _ := hR
  clear hR
  obtain ⟨a0, c0, e0, _⟩ := id h0
  obtain ⟨a1, c1, e1, _⟩ := id h1
  obtain ⟨a2, c2, e2, _⟩ := id h2
  subst e0 e1 e2
  go_enter Try.func4, Try.ntmps4
  go_wp2_with (fail)
  refine bytes16 a0 a1 a2 n n1 n2 c0 c1 c2 v3 m L g hn hn1 hn2 hm hLm w h3 ?_
  intro b
  cases b
  · go_wp2
    exact HR.out _ (Below.refl _ _)
  go_wp2_with (fail)
  refine size7 a0 a1 a2 n n1 n2 c0 c1 c2 v3 m L g hn hn1 hn2 hm hLm w h3 ?_
  intro b hb
  cases b
  · go_wp2
    exact HR.out _ (Below.refl _ _)
  have hsz := hb rfl
  unfold SizeOK at hsz
  clear hb
  have hn' : n ≤ 1048576 := by omega
  have hn1' : n1 ≤ 1048576 := by omega
  have hn2' : n2 ≤ 1048576 := by omega
  have hm' : m ≤ 1048576 := by omega
  have hL' : ∀ r, r < m → L r ≤ 1048576 := fun r hr => by have := le_sumL L hr; omega
  clear hsz
  go_wp2_with (fail)
  refine back17 _ _ n m f L g hn' hm' hL' w h0 h3 ?_
  intro b hb
  cases b
  · go_wp2
    exact HR.out _ (Below.refl _ _)
  obtain ⟨hwf, hwg⟩ := hb rfl
  clear hb
  obtain ⟨s, hs⟩ : ∃ s : Nat → Nat, ∀ j, j < n → f j = (s j : Int) ∧ s j < n := ⟨fun j => (f j).toNat, fun j hj => by have := hwf j hj; show f j = ((f j).toNat : Int) ∧ (f j).toNat < n; omega⟩
  have h0' : SlAt w (.slice a0 n c0) n (fun j => .int .i64 (s j : Nat)) := h0.congr (fun j hj => by rw [(hs j hj).1])
  have hsn : ∀ j, j < n → s j < n := fun j hj => (hs j hj).2
  clear hs hwf h0
  go_wp2_with (fail)
  refine clone9c _ n (fun j => (s j : Nat)) w hn' h0' ?_
  intro x0 w1 g0 b1
  go_wp2_with (fail)
  refine clone10c _ n1 p w1 hn1' (h1.below b1) ?_
  intro x1 w2 g1 b2
  go_wp2_with (fail)
  refine clone11c _ n2 ve w2 hn2' ((h2.below b1).below b2) ?_
  intro x2 w3 g2 b3
  go_wp2_with (fail)
  refine clone12 _ m L g w3 hm' hL' (((h3.below b1).below b2).below b3) ?_
  intro x3 w3' g3 b4
  obtain ⟨A, C, g31, g32⟩ := g3
  clear h0' h1 h2 h3
  go_wp2_with (fail)
  refine build13 x0 x1 x2 x3 n n1 n2 m s p ve A L C w3' hn' hn1' hn2' hm' hsn (((g0.below b2).below b3).below b4) ((g1.below b3).below b4) (g2.below b4) g31 ?_
  intro sv w4 hBI
  have hb03 : Below w.heap.size w w3' := (b1.trans (b2.mono b1.size)).trans ((b3.mono (Nat.le_trans b1.size b2.size)).trans (b4.mono (Nat.le_trans b1.size (Nat.le_trans b2.size b3.size))))
  have hb4 : Below w.heap.size w w4 := hb03.trans (hBI.bel.mono hb03.size)
  have hz0 : SlAt w4 x0 n (fun j => .int .i64 (s j : Nat)) := (((g0.below b2).below b3).below b4).below hBI.bel
  have hlaid := laid_of_BI2 hBI (fun r hr => (g32 r hr).below hBI.bel) (fun r hr hrn j hj => (hwg r hr hrn j hj).1)
  obtain ⟨H, hHd⟩ : ∃ H, H = Hof n n1 n2 s p ve (srcf m L g) := ⟨_, rfl⟩
  have hHok : HistOK H := by
    rw [hHd]
    refine Hof.ok hn' hsn hve (fun i hi x hx => ?_) (fun i hi => ?_)
    · obtain ⟨e1, j, e2, rfl⟩ := mem_srcf hx
      have := hwg i e1 hi j e2
      have hi' : i < n := hi
      omega
    · rw [srcf_length]; split
      · exact hL' i (by assumption)
      · omega
  have hSok : SeqOK H := by rw [hHd]; exact Hof.seqOK
  have hBk : Back H := by
    rw [hHd]
    refine Hof.back (fun i hi p hp => ?_)
    obtain ⟨e1, j, e2, rfl⟩ := mem_srcf hp
    have := hwg i e1 hi j e2
    omega
  have hPk : PrevOK H (prevOf H.sess) := by rw [hHd]; exact prevOf_ok
  have hHall : ∀ i, i < H.n → H.sess i < H.k ∧ i ∈ H.seq (H.sess i) := by rw [hHd]; exact Hof.all
  have hHtot : sumL (fun q => (H.seq q).length) H.k = H.n := by rw [hHd]; exact Hof.total
  rw [← hHd] at hlaid
  clear g0 g1 g2 g31 g32 b1 b2 b3 b4 hBI hn hn1 hn2 hm hLm hwg hb03
  have hHn : H.n = n := by rw [hHd]; rfl
  have hHk : H.k = kOf s n := by rw [hHd]; rfl
  have hkn : kOf s n ≤ n := kOf_le s n hsn n (Nat.le_refl n)
  have hb5 : Below w4.heap.size w4 (w4.alloc (.cells #[.slice (some ⟨w3'.heap.size + 2, 0, none⟩) n n, .slice (some ⟨w3'.heap.size + 6, 0, none⟩) (kOf s n) (kOf s n), .slice (some ⟨w3'.heap.size + 3, 0, none⟩) n n, .slice (some ⟨w3'.heap.size + 4, 0, none⟩) n n, .slice (some ⟨w3'.heap.size + 5, 0, none⟩) n n] 34)) := (Below.refl _ _).alloc (Nat.le_refl _) _
  generalize kOf s n = K at *
  have HHN : Hid _ := hHn
  have HHK : Hid _ := hHk
  clear hHd hHn hHk hL' hve
  go_wp2_with (fail)
  refine zz14 HHN.out HHK.out hHok (hlaid.below hb5) (J3q.inv hSok hHok hBk) ?_
  intro st vo bh w5 hj hwf hfin ho hhi hb6
  obtain ⟨hol, hin, hnx⟩ := hj.j3.j2.done (fun s hs => hfin s (by rw [← HHK.out]; exact hs)) hHtot hHall
  rw [HHN.out] at hol hin
  rw [HHK.out] at hnx
  have hlaid5 := (hlaid.below hb5).below hb6
  have hst : ∀ j, j < 5 → w5.cell? ⟨w4.heap.size, j, none⟩ = (#[Value.slice (some ⟨w3'.heap.size + 2, 0, none⟩) n n, .slice (some ⟨w3'.heap.size + 6, 0, none⟩) K K, .slice (some ⟨w3'.heap.size + 3, 0, none⟩) n n, .slice (some ⟨w3'.heap.size + 4, 0, none⟩) n n, .slice (some ⟨w3'.heap.size + 5, 0, none⟩) n n] : Array Value)[j]? := fun j hj => by
    rw [hb6.cell (by simp), cell_of_row _ _ _ _ _ _ (Go.Deep.blk_alloc_new _ _)]
  have hhd5 : w5.heap[w4.heap.size]? = some (.cells #[Value.slice (some ⟨w3'.heap.size + 2, 0, none⟩) n n, .slice (some ⟨w3'.heap.size + 6, 0, none⟩) K K, .slice (some ⟨w3'.heap.size + 3, 0, none⟩) n n, .slice (some ⟨w3'.heap.size + 4, 0, none⟩) n n, .slice (some ⟨w3'.heap.size + 5, 0, none⟩) n n] 34 (0, 0)) :=
    (hb6.block _ (by simp)).trans (Go.Deep.blk_alloc_new _ _)
  have k0 := hst 0 (by omega)
  have k1 := hst 1 (by omega)
  have k4 := hst 4 (by omega)
  clear hst
  have hb9 : Below w.heap.size w w5 := hb4.trans ((hb5.trans (hb6.mono hb5.size)).mono hb4.size)
  obtain ⟨ax, cx, ex, hxc⟩ := (hz0.below hb5).below hb6
  subst ex
  rw [hol] at ho
  have hnd := hj.j3.j2.nodup
  have hlt : ∀ i, i ∈ st.ord → i < n := fun i hi => by rw [← HHN.out]; exact hj.j3.j2.lt i hi
  have hz := hhi.lt
  go_wp2_with (fail)
  refine positions15n vo st.ord n hol w5 hn' hnd hlt hin ho ?_
  intro bp w6 hpos hb10 hbp
  have hhi6 := hhi.of_block (hb10.block _ hhi.lt)
  have k0' := cell_below (B := 0) hb10 k0
  have k1' := cell_below (B := 0) hb10 k1
  have k4' := cell_below (B := 0) hb10 k4
  have hlaid6 := hlaid5.below hb10
  have hb11 : Below w.heap.size w w6 := hb9.trans (hb10.mono hb9.size)
  have hsrc : ∀ i, i < n → ∃ A C, w6.cell? ⟨w3'.heap.size + 5, i, none⟩ = some (.slice A (H.src i).length C) ∧ SlAt w6 (.slice A (H.src i).length C) (H.src i).length (fun t => .int .i64 ((H.src i).getD t 0 : Nat)) := fun i hi => by
    rw [← HHN.out] at hi
    exact ⟨_, _, hlaid6.srcs i hi, hlaid6.src i hi⟩
  have htk : ∀ i, i < n → st.taken i = true := fun i hi => (hj.j3.j2.mem i).1 (hin i hi)
  have psrc : ∀ i, i < n → (H.src i).length ≤ 1048576 ∧ ∀ t, t < (H.src i).length → (H.src i).getD t 0 < i ∧ st.ord.idxOf ((H.src i).getD t 0) < st.ord.idxOf i := fun i hi => by
    have hi' : i < H.n := by rw [HHN.out]; exact hi
    exact ⟨hHok.srcLen i hi', fun t ht => ⟨hBk.src i hi' _ (getD_mem' ht), (hj.j3.srcs i _ (htk i hi) (getD_mem' ht)).2⟩⟩
  have phigh : ∀ i, i < n → st.high i = Mx H i := fun i hi => hj.j3.high i (htk i hi)
  have hcin : CIn w6 H n K (w3'.heap.size + 2) (w3'.heap.size + 3) (w3'.heap.size + 5) :=
    ⟨fun j hj => hlaid6.ops j (by rw [HHN.out]; exact hj), fun j hj => hlaid6.sess j (by rw [HHN.out]; exact hj), hsrc, fun i hi => (psrc i hi).1, fun j hj => by rw [← HHK.out]; exact hHok.sessLt j (by rw [HHN.out]; exact hj), fun i hi t ht => ((psrc i hi).2 t ht).1⟩
  have hhi7 := hhi6.congr (fun i hi => by rw [phigh i hi])
  have pver := hHok.verOk
  have hhd6 := (hb10.block _ (Array.getElem?_eq_some_iff.1 hhd5).1).trans hhd5
  generalize hixd : (fun i => st.ord.idxOf i) = ix at *
  have hixe : ∀ i, st.ord.idxOf i = ix i := fun i => by rw [← hixd]
  simp only [hixe] at hpos psrc
  clear hlaid hlaid5 hlaid6 hb5 hb6 hb9 hb4 hhi hhi6 k0 k1 k4 k0' k1' hj hwf hfin ho hol hin hnx hHok hSok hHall hHtot hnd hlt hz hxc hz0 hixd hixe hsn htk HHK phigh hhd5
  go_wp2
  go_loopg [15] n (fun g iv wr => ∃ i : Nat, i ≤ n ∧ g = n - i ∧ iv = .int .i64 (i : Nat) ∧ Below w6.heap.size w6 wr)
  case atStart => exact ⟨0, Nat.zero_le _, rfl, rfl, Below.refl _ _⟩
  case round =>
    obtain ⟨i, hin, rfl, rfl, hbr⟩ := hrel
    by_cases hlt : i < n
    · obtain ⟨ai, ci, z7', hsl⟩ := hsrc i hlt
      obtain ⟨hl20, hps⟩ := psrc i hlt
      have z8 := hpos.cell hlt
      obtain ⟨l, hl⟩ : ∃ l, l = H.src i := ⟨_, rfl⟩
      rw [← hl] at z7' hsl hl20 hps
      obtain ⟨m', hm'd⟩ : ∃ m', m' = l.length := ⟨_, rfl⟩
      rw [← hm'd] at z7' hsl hl20 hps
      obtain ⟨Y, hY⟩ : ∃ Y, Y = ix i := ⟨_, rfl⟩
      rw [← hY] at z8 hps
      clear hl hm'd hY
      obtain ⟨a', c', e', hcl⟩ := hsl
      cases e'
      go_wp2
      go_loopg [16] m' (fun g tv wr => ∃ t : Nat, t ≤ m' ∧ g = m' - t ∧ tv = .int .i64 (t : Nat) ∧ Below w6.heap.size w6 wr)
      case atStart => exact ⟨0, Nat.zero_le _, rfl, rfl, hbr⟩
      case round =>
        clear hbr
        obtain ⟨t, htm, rfl, rfl, hbr⟩ := hrel
        have z6 := cell_below (B := 0) hbr k4'
        have z7 := cell_below (B := 0) hbr z7'
        by_cases hlt2 : t < m'
        · obtain ⟨b1, o1, rfl, y1⟩ := hcl (by omega)
          obtain ⟨hpi, hple⟩ := hps t hlt2
          have y3 := cell_below (B := 0) hbr (y1 t hlt2)
          generalize l.getD t 0 = P at *
          have hpn : P < n := by omega
          have hpI : (P : Int) < n := by omega
          have y4 := cell_below (B := 0) hbr (hpos.cell hpn)
          have y6 := cell_below (B := 0) hbr z8
          generalize ix P = IP at *
          go_wp2
          go_quiet (fail)
          go_wp2
          go_roundg (m' - (t + 1))
          case measure => omega
          case rel => exact ⟨t + 1, by omega, rfl, by go_num, below_drewN hbr _⟩
        · go_wp2
          go_roundg (n - (i + 1))
          case measure => omega
          case rel => exact ⟨i + 1, by omega, rfl, by go_num, hbr⟩
    · have hhdr := (hbr.block _ (Array.getElem?_eq_some_iff.1 hhd6).1).trans hhd6
      have f0 := cell_of_row wr w4.heap.size 0 _ _ _ hhdr
      have f1 := cell_of_row wr w4.heap.size 1 _ _ _ hhdr
      have f2 := cell_of_row wr w4.heap.size 2 _ _ _ hhdr
      have f3 := cell_of_row wr w4.heap.size 3 _ _ _ hhdr
      have f4 := cell_of_row wr w4.heap.size 4 _ _ _ hhdr
      simp only [List.getElem?_toArray, List.getElem?_cons_zero, List.getElem?_cons_succ] at f0 f1 f2 f3 f4
      have hcin' : CIn wr H n K (w3'.heap.size + 2) (w3'.heap.size + 3) (w3'.heap.size + 5) := hcin.below hbr
      have hhr := hhi7.of_block (hbr.block _ hhi7.lt)
      clear hhdr hhd6 hsrc psrc hpos k4' hcin
      go_wp2_with (fail)
      refine closure18 (H := H) hn' (by omega) HHN.out hBk hPk pver hcin' ?_
      intro bm w7 hm7 hb7
      have hh7 := hhr.of_block (hb7.block _ hhr.lt)
      have hbw : Below w.heap.size w w7 := (hb11.trans (hbr.mono hb11.size)).trans (hb7.mono (Nat.le_trans hb11.size hbr.size))
      clear f0 f1 f2 f3 f4 hcin' hhr hbr hb7 hb11 hb10
      go_wp2
      go_loopg [18] n (fun g iv wr => ∃ i : Nat, i ≤ n ∧ g = n - i ∧ iv = .int .i64 (i : Nat) ∧ Below w7.heap.size w7 wr)
      case atStart => exact ⟨0, Nat.zero_le _, rfl, rfl, Below.refl _ _⟩
      case round =>
        clear hlt hin
        obtain ⟨i, hin, rfl, rfl, hbr⟩ := hrel
        by_cases hlt : i < n
        · have y1 := cell_below (B := 0) hbr (hm7.cell hlt)
          have y2 := cell_below (B := 0) hbr (hh7.cell hlt)
          generalize Mx H i = X at *
          go_wp2
          go_quiet (fail)
          go_wp2
          go_roundg (n - (i + 1))
          case measure => omega
          case rel => exact ⟨i + 1, by omega, rfl, by go_num, below_drewN hbr _⟩
        · go_wp2
          exact HR.out _ (hbw.trans (hbr.mono hbw.size))
end Go.Proofs.Qxb6001561a
