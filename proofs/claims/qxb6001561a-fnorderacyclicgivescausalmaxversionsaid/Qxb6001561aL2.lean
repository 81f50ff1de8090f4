import Derived.Test.Qxb6001561aL1
import Derived.Test.Qxb6001561aA5
import Derived.Test.Qxb6001561aM1
import Derived.Test.Qxb6001561aP4
namespace Go.Proofs.Qxb6001561a
set_option linter.unusedVariables false
set_option linter.unusedSimpArgs false
open Go.RowKit Go.Maps

/-- the sources as the rows of src give them -/
def srcf (m : Nat) (L : Nat → Nat) (g : Nat → Nat → Int) (i : Nat) : List Nat := if i < m then (List.range (L i)).map (fun j => (g i j).toNat) else []

theorem srcf_length (m : Nat) (L : Nat → Nat) (g : Nat → Nat → Int) (i : Nat) : (srcf m L g i).length = if i < m then L i else 0 := by
  unfold srcf; split <;> simp
theorem srcf_get {m : Nat} {L : Nat → Nat} {g : Nat → Nat → Int} {i t : Nat} (h : t < (srcf m L g i).length) : i < m ∧ t < L i ∧ (srcf m L g i).getD t 0 = (g i t).toNat := by
  have hl := srcf_length m L g i
  by_cases e : i < m
  · rw [if_pos e] at hl
    refine ⟨e, by omega, ?_⟩
    unfold srcf
    rw [if_pos e, List.getD_eq_getElem?_getD, List.getElem?_map, List.getElem?_range (by omega)]; rfl
  · rw [if_neg e] at hl; omega
theorem mem_srcf {m : Nat} {L : Nat → Nat} {g : Nat → Nat → Int} {i p : Nat} (h : p ∈ srcf m L g i) : i < m ∧ ∃ j, j < L i ∧ p = (g i j).toNat := by
  unfold srcf at h
  split at h
  · rename_i e
    obtain ⟨j, hj, rfl⟩ := List.mem_map.1 h
    exact ⟨e, j, List.mem_range.1 hj, rfl⟩
  · cases h

/-- what zzBuild_hb1 has laid, as ZZOrder wants it -/
theorem laid_of_BI2 {w wr : World} {B n n1 n2 m : Nat} {s : Nat → Nat} {p : Nat → Bool} {ve : Nat → Int} {A : Nat → Option Addr} {L C : Nat → Nat} {sv : Nat → Value} {g : Nat → Nat → Int} (h : BI w B n (kOf s n) n1 n2 m s p ve (fun j => .slice (A j) (L j) (C j)) n n n n n sv wr)
    (hrows : ∀ r, r < m → SlAt wr (.slice (A r) (L r) (C r)) (L r) (fun j => .int .i64 (g r j))) (hg : ∀ r, r < m → r < n → ∀ j, j < L r → 0 ≤ g r j) :
    Laid wr (Hof n n1 n2 s p ve (srcf m L g)) (B + 2) (B + 6) (B + 3) (B + 4) (B + 5) sv (fun j => if j < m then A j else none) (fun j => if j < m then C j else 0) := by
  obtain ⟨c, hc, _, hv⟩ := h.ops
  refine ⟨fun j hj => ?_, fun q hq => h.seqs.cell hq, fun q hq => ?_, fun j hj => ?_, fun j hj => ?_, fun j hj => ?_, fun j hj => ?_⟩
  · rw [cell_of_row wr _ _ _ _ _ hc, cell_of_row wr _ _ _ _ _ hc]
    have := hv j hj
    rw [kindOf_kindV] at this
    exact this
  · have hr := h.rows q hq
    rcases QAt.of_owns hr with ⟨e1, e2⟩ | ⟨b, off, cap, e1, _, _, _, e2⟩
    · rw [e1]
      show SlAt wr _ (seqOf s n q).length _
      rw [e2]
      exact SlAt.nil _ _
    · exact ⟨_, _, e1, fun _ => ⟨b, off, rfl, e2⟩⟩
  · have hj' : j < n := hj
    have := h.sess.cell hj'
    rw [if_pos hj'] at this; exact this
  · have hj' : j < n := hj
    have := h.place.cell hj'
    rw [if_pos hj'] at this; exact this
  · have hj' : j < n := hj
    have := h.srcs.cell hj'
    show wr.cell? ⟨B + 5, j, none⟩ = some (.slice _ (srcf m L g j).length _)
    rw [this, srcf_length]
    by_cases e : j < m
    · rw [if_pos ⟨hj', e⟩, if_pos e, if_pos e, if_pos e]
    · rw [if_neg (fun h => e h.2), if_neg e, if_neg e, if_neg e]
  · have hj' : j < n := hj
    show SlAt wr (.slice _ (srcf m L g j).length _) (srcf m L g j).length (fun t => .int .i64 ((srcf m L g j).getD t 0 : Nat))
    by_cases e : j < m
    · have hl : (srcf m L g j).length = L j := by rw [srcf_length, if_pos e]
      simp only [if_pos e]
      rw [hl]
      refine (hrows j e).congr (fun t ht => ?_)
      have h2 := (srcf_get (m := m) (L := L) (g := g) (i := j) (t := t) (by omega)).2.2
      rw [h2]
      have := hg j e hj' t ht
      congr 1
      omega
    · have hl : (srcf m L g j).length = 0 := by rw [srcf_length, if_neg e]
      rw [hl]
      simp only [if_neg e]
      exact SlAt.nil _ _

theorem J2.inv {H : Hist} (hS : SeqOK H) (hH : HistOK H) : Inv H (fun st _ => J2 H st) :=
  ⟨J2.start H, fun st s q hs _ h => h.adv hH hS hs _ _, fun st s hs _ h _ => h.adv hH hS hs _ _⟩

theorem J3q.inv {H : Hist} (hS : SeqOK H) (hH : HistOK H) (hB : Back H) : Inv H (J3q H) :=
  ⟨J3q.start H, fun st s q hs _ h => J3q.adv hH hS hB hs _ st q h.j3 (fun x hx ex hxl => by
      rcases h.way x hx hxl with h1 | h1
      · rcases List.mem_cons.1 h1 with e | h1
        · exact absurd e ex
        · exact .inl h1
      · exact .inr h1) (by
      have : (H.seq s).length ≤ H.n := Nat.le_trans (le_sumL (fun s => (H.seq s).length) hs) hH.total
      omega), fun st s hs _ h hlt => (h.free hB hH _ s hs hlt (Nat.le_refl _)).elim⟩

theorem Hof.all {n n1 n2 : Nat} {s : Nat → Nat} {p : Nat → Bool} {ve : Nat → Int} {src : Nat → List Nat} : ∀ i, i < (Hof n n1 n2 s p ve src).n → (Hof n n1 n2 s p ve src).sess i < (Hof n n1 n2 s p ve src).k ∧ i ∈ (Hof n n1 n2 s p ve src).seq ((Hof n n1 n2 s p ve src).sess i) :=
  fun i hi => ⟨lt_kOf s n i hi, mem_seqOf.2 ⟨hi, rfl⟩⟩
theorem Hof.total {n n1 n2 : Nat} {s : Nat → Nat} {p : Nat → Bool} {ve : Nat → Int} {src : Nat → List Nat} : sumL (fun q => ((Hof n n1 n2 s p ve src).seq q).length) (Hof n n1 n2 s p ve src).k = (Hof n n1 n2 s p ve src).n :=
  seqOf_total s (kOf s n) n (fun j hj => lt_kOf s n j hj)

theorem seqOf_mono (s : Nat → Nat) (n q : Nat) : ∀ u v, u < v → v < (seqOf s n q).length → (seqOf s n q).getD u 0 < (seqOf s n q).getD v 0 := by
  intro u v huv hv
  have hp : (seqOf s n q).Pairwise (· < ·) := List.Pairwise.filter _ List.pairwise_lt_range
  rw [List.getD_eq_getElem?_getD, List.getElem?_eq_getElem (by omega), List.getD_eq_getElem?_getD, List.getElem?_eq_getElem hv]
  exact List.pairwise_iff_getElem.1 hp u v (by omega) hv huv

theorem positions15n (v : Value) (l : List Nat) (n : Nat) (hl : l.length = n) (w : World) (hn : n ≤ 1048576) (hnd : l.Nodup) (hlt : ∀ i, i ∈ l → i < n) (hall : ∀ i, i < n → i ∈ l) (h : SlAt w v n (fun t => .int .i64 (l.getD t 0 : Nat))) {R : Ending → World → Prop}
    (hR : ∀ b w', w'.rowIs b 3 n (fun i => .int .i64 (l.idxOf i : Nat)) → Below w.heap.size w w' → w.heap.size ≤ b → R (.returned (.tuple #[.slice (some ⟨b, 0, none⟩) n n, .bool true])) w') :
    Calls Try.prog 15 #[v, .int .i64 (n : Nat)] w R := by
  subst hl
  refine positions15 v l w hn hnd hlt h ?_
  intro b w' h1 h2 h3
  exact hR b w' (h1.congr (fun i hi => by rw [if_pos (hall i hi)])) h2 h3

set_option maxRecDepth 100000 in
set_option maxHeartbeats 4000000 in
theorem law3 (v0 v1 v2 v3 : Value) (n n1 n2 m : Nat) (f : Nat → Int) (p : Nat → Bool) (ve : Nat → Int) (L : Nat → Nat) (g : Nat → Nat → Int) (w : World) (hn : n ≤ maxLen) (hn1 : n1 ≤ maxLen) (hn2 : n2 ≤ maxLen) (hm : m ≤ maxLen) (hLm : ∀ r, r < m → L r ≤ maxLen) (hve : ∀ j, j < n2 → 0 ≤ ve j ∧ ve j ≤ 18446744073709551615)
    (h0 : SlAt w v0 n (fun j => .int .i64 (f j))) (h1 : SlAt w v1 n1 (fun j => .bool (p j))) (h2 : SlAt w v2 n2 (fun j => .int .u64 (ve j))) (h3 : RowsAt w v3 m L g) {R : Ending → World → Prop}
    (hR : ∀ w', Below w.heap.size w w' → R (.returned (.bool true)) w') : Calls Try.prog 3 #[v0, v1, v2, v3] w R := by
  have HR : Hid _ := hR
  clear hR
  obtain ⟨a0, c0, e0, _⟩ := id h0
  obtain ⟨a1, c1, e1, _⟩ := id h1
  obtain ⟨a2, c2, e2, _⟩ := id h2
  subst e0 e1 e2
  go_enter Try.func3, Try.ntmps3
  go_wp2_with (fail)
  refine bytes6 a0 a1 a2 n n1 n2 c0 c1 c2 v3 m L g hn hn1 hn2 hm hLm w h3 ?_
  intro b
  cases b
  · go_wp2
    exact HR.out _ (Below.refl _ _)
  go_wp2_with (fail)
  refine size7 a0 a1 a2 n n1 n2 c0 c1 c2 v3 m L g hn hn1 hn2 hm hLm w h3 ?_
  intro b hb
  cases b
  · go_wp2
    exact HR.out _ (Below.refl _ _)
  have hsz := hb rfl
  unfold SizeOK at hsz
  clear hb
  have hn' : n ≤ 1048576 := by omega
  have hn1' : n1 ≤ 1048576 := by omega
  have hn2' : n2 ≤ 1048576 := by omega
  have hm' : m ≤ 1048576 := by omega
  have hL' : ∀ r, r < m → L r ≤ 1048576 := fun r hr => by have := le_sumL L hr; omega
  clear hsz
  go_wp2_with (fail)
  refine well8 _ _ n m f L g hn' hm' hL' w h0 h3 ?_
  intro b hb
  cases b
  · go_wp2
    exact HR.out _ (Below.refl _ _)
  obtain ⟨hwf, hwg⟩ := hb rfl
  clear hb
  obtain ⟨s, hs⟩ : ∃ s : Nat → Nat, ∀ j, j < n → f j = (s j : Int) ∧ s j < n := ⟨fun j => (f j).toNat, fun j hj => by have := hwf j hj; show f j = ((f j).toNat : Int) ∧ (f j).toNat < n; omega⟩
  have h0' : SlAt w (.slice a0 n c0) n (fun j => .int .i64 (s j : Nat)) := h0.congr (fun j hj => by rw [(hs j hj).1])
  have hsn : ∀ j, j < n → s j < n := fun j hj => (hs j hj).2
  clear hs hwf h0
  go_wp2_with (fail)
  refine clone9c _ n (fun j => (s j : Nat)) w hn' h0' ?_
  intro x0 w1 g0 b1
  go_wp2_with (fail)
  refine clone10c _ n1 p w1 hn1' (h1.below b1) ?_
  intro x1 w2 g1 b2
  go_wp2_with (fail)
  refine clone11c _ n2 ve w2 hn2' ((h2.below b1).below b2) ?_
  intro x2 w3 g2 b3
  go_wp2_with (fail)
  refine clone12 _ m L g w3 hm' hL' (((h3.below b1).below b2).below b3) ?_
  intro x3 w3' g3 b4
  obtain ⟨A, C, g31, g32⟩ := g3
  clear h0' h1 h2 h3
  go_wp2_with (fail)
  refine build13 x0 x1 x2 x3 n n1 n2 m s p ve A L C w3' hn' hn1' hn2' hm' hsn (((g0.below b2).below b3).below b4) ((g1.below b3).below b4) (g2.below b4) g31 ?_
  intro sv w4 hBI
  have hb03 : Below w.heap.size w w3' := (b1.trans (b2.mono b1.size)).trans ((b3.mono (Nat.le_trans b1.size b2.size)).trans (b4.mono (Nat.le_trans b1.size (Nat.le_trans b2.size b3.size))))
  have hb4 : Below w.heap.size w w4 := hb03.trans (hBI.bel.mono hb03.size)
  have hz0 : SlAt w4 x0 n (fun j => .int .i64 (s j : Nat)) := (((g0.below b2).below b3).below b4).below hBI.bel
  have hlaid := laid_of_BI2 hBI (fun r hr => (g32 r hr).below hBI.bel) (fun r hr hrn j hj => (hwg r hr hrn j hj).1)
  obtain ⟨H, hHd⟩ : ∃ H, H = Hof n n1 n2 s p ve (srcf m L g) := ⟨_, rfl⟩
  have hHok : HistOK H := by
    rw [hHd]
    refine Hof.ok hn' hsn hve (fun i hi x hx => ?_) (fun i hi => ?_)
    · obtain ⟨e1, j, e2, rfl⟩ := mem_srcf hx
      have := hwg i e1 hi j e2
      omega
    · rw [srcf_length]; split
      · exact hL' i (by assumption)
      · omega
  have hSok : SeqOK H := by rw [hHd]; exact Hof.seqOK
  have hHall : ∀ i, i < H.n → H.sess i < H.k ∧ i ∈ H.seq (H.sess i) := by rw [hHd]; exact Hof.all
  have hHtot : sumL (fun q => (H.seq q).length) H.k = H.n := by rw [hHd]; exact Hof.total
  rw [← hHd] at hlaid
  clear g0 g1 g2 g31 g32 b1 b2 b3 b4 hBI hn hn1 hn2 hm hLm hwg hb03
  have hHn : H.n = n := by rw [hHd]; rfl
  have hHk : H.k = kOf s n := by rw [hHd]; rfl
  have hkn : kOf s n ≤ n := kOf_le s n hsn n (Nat.le_refl n)
  have hb5 : Below w4.heap.size w4 (w4.alloc (.cells #[.slice (some ⟨w3'.heap.size + 2, 0, none⟩) n n, .slice (some ⟨w3'.heap.size + 6, 0, none⟩) (kOf s n) (kOf s n), .slice (some ⟨w3'.heap.size + 3, 0, none⟩) n n, .slice (some ⟨w3'.heap.size + 4, 0, none⟩) n n, .slice (some ⟨w3'.heap.size + 5, 0, none⟩) n n] 34)) := (Below.refl _ _).alloc (Nat.le_refl _) _
  generalize kOf s n = K at *
  have HHN : Hid _ := hHn
  have HHK : Hid _ := hHk
  clear hHd hHn hHk hL' hve
  go_wp2_with (fail)
  refine zz14 HHN.out HHK.out hHok (hlaid.below hb5) (J2.inv hSok hHok) ?_
  intro st vo bh w5 hj hwf hfin ho hhi hb6
  obtain ⟨hol, hin, hnx⟩ := hj.done (fun s hs => hfin s (by rw [← HHK.out]; exact hs)) hHtot hHall
  rw [HHN.out] at hol hin
  rw [HHK.out] at hnx
  have hlaid5 := (hlaid.below hb5).below hb6
  have hst : ∀ j, j < 5 → w5.cell? ⟨w4.heap.size, j, none⟩ = (#[Value.slice (some ⟨w3'.heap.size + 2, 0, none⟩) n n, .slice (some ⟨w3'.heap.size + 6, 0, none⟩) K K, .slice (some ⟨w3'.heap.size + 3, 0, none⟩) n n, .slice (some ⟨w3'.heap.size + 4, 0, none⟩) n n, .slice (some ⟨w3'.heap.size + 5, 0, none⟩) n n] : Array Value)[j]? := fun j hj => by
    rw [hb6.cell (by simp), cell_of_row _ _ _ _ _ _ (Go.Deep.blk_alloc_new _ _)]
  have k0 := hst 0 (by omega)
  have k1 := hst 1 (by omega)
  have k4 := hst 4 (by omega)
  clear hst
  have hb9 : Below w.heap.size w w5 := hb4.trans ((hb5.trans (hb6.mono hb5.size)).mono hb4.size)
  obtain ⟨ax, cx, ex, hxc⟩ := (hz0.below hb5).below hb6
  subst ex
  rw [hol] at ho
  have hnd := hj.nodup
  have hlt : ∀ i, i ∈ st.ord → i < n := fun i hi => by rw [← HHN.out]; exact hj.lt i hi
  have hz := hhi.lt
  go_wp2_with (fail)
  refine positions15n vo st.ord n hol w5 hn' hnd hlt hin ho ?_
  intro bp w6 hpos hb10 hbp
  have hhi6 := hhi.of_block (hb10.block _ hhi.lt)
  have k0' := cell_below (B := 0) hb10 k0
  have k1' := cell_below (B := 0) hb10 k1
  have k4' := cell_below (B := 0) hb10 k4
  have hlaid6 := hlaid5.below hb10
  have hb11 : Below w.heap.size w w6 := hb9.trans (hb10.mono hb9.size)
  -- what the rest reads
  have hsq : ∀ q, q < K → w6.cell? ⟨w3'.heap.size + 6, q, none⟩ = some (sv q) ∧ SlAt w6 (sv q) (H.seq q).length (fun t => .int .i64 ((H.seq q).getD t 0 : Nat)) := fun q hq => by
    rw [← HHK.out] at hq
    exact ⟨hlaid6.seqs q hq, hlaid6.seq q hq⟩
  have hopc : ∀ i, i < n → w6.cell? ⟨w3'.heap.size + 2, i * 10 + 2, none⟩ = some (kindV (H.put i)) ∧ w6.cell? ⟨w3'.heap.size + 2, i * 10 + 4, none⟩ = some (.int .u64 (H.ver i)) := fun i hi => by
    rw [← HHN.out] at hi
    exact hlaid6.ops i hi
  have hsrc : ∀ i, i < n → ∃ A C, w6.cell? ⟨w3'.heap.size + 5, i, none⟩ = some (.slice A (H.src i).length C) ∧ SlAt w6 (.slice A (H.src i).length C) (H.src i).length (fun t => .int .i64 ((H.src i).getD t 0 : Nat)) := fun i hi => by
    rw [← HHN.out] at hi
    exact ⟨_, _, hlaid6.srcs i hi, hlaid6.src i hi⟩
  have pseq : ∀ q, q < K → (H.seq q).length ≤ n ∧ ∀ u, u + 1 < (H.seq q).length → (H.seq q).getD u 0 < n ∧ (H.seq q).getD (u + 1) 0 < n ∧ st.ord.idxOf ((H.seq q).getD u 0) < st.ord.idxOf ((H.seq q).getD (u + 1) 0) ∧ st.high ((H.seq q).getD u 0) ≤ st.high ((H.seq q).getD (u + 1) 0) := fun q hq => by
    have hnq := hnx q hq
    have hq' : q < H.k := by rw [HHK.out]; exact hq
    refine ⟨?_, fun u hu => ⟨?_, ?_, hj.inOrd q hq' u (u + 1) (by omega) (by omega), hj.mono q hq' u (by omega)⟩⟩
    · have := le_sumL (fun s => (H.seq s).length) hq'
      rw [hHtot, HHN.out] at this; exact this
    · rw [← HHN.out]; exact hHok.seqLt q hq' _ (getD_mem' (by omega))
    · rw [← HHN.out]; exact hHok.seqLt q hq' _ (getD_mem' (by omega))
  have htk : ∀ i, i < n → st.taken i = true := fun i hi => (hj.mem i).1 (hin i hi)
  have pput : ∀ i, i < n → H.put i = true → H.ver i ≤ st.high i := fun i hi hp => hj.put i (htk i hi) hp
  have psome : ∀ i, st.high i = 0 ∨ ∃ j, j < n ∧ H.put j = true ∧ st.high i = H.ver j := fun i => by
    have := hj.some i
    rw [HHN.out] at this; exact this
  have psrc : ∀ i, i < n → (H.src i).length ≤ 1048576 ∧ ∀ t, t < (H.src i).length → (H.src i).getD t 0 < n ∧ (st.ord.idxOf ((H.src i).getD t 0) < st.ord.idxOf i → st.high ((H.src i).getD t 0) ≤ st.high i) := fun i hi => by
    have hi' : i < H.n := by rw [HHN.out]; exact hi
    refine ⟨hHok.srcLen i hi', fun t ht => ?_⟩
    have h1 := hHok.srcLt i hi' _ (getD_mem' ht)
    rw [HHN.out] at h1
    exact ⟨h1, hj.src i _ (htk i hi) (getD_mem' ht) (htk _ h1)⟩
  have pver : ∀ i, 0 ≤ H.ver i ∧ H.ver i ≤ 18446744073709551615 := hHok.verOk
  have phigh : ∀ i, 0 ≤ st.high i ∧ st.high i ≤ 18446744073709551615 := hwf.highOk
  have pidx : ∀ i, i < n → st.ord.idxOf i < n := fun i hi => by have := idxOf_lt (hin i hi); omega
  generalize hixd : (fun i => st.ord.idxOf i) = ix at *
  have hixe : ∀ i, st.ord.idxOf i = ix i := fun i => by rw [← hixd]
  simp only [hixe] at hpos pseq psrc pidx
  generalize hhgd : st.high = hg at *
  clear hlaid hlaid5 hlaid6 hb5 hb6 hb9 hb4 hhi k0 k1 k4 hj hwf hfin ho hol hin hnx hHok hSok hHall hHtot hnd hlt hz hxc hz0 hixd hixe hhgd hsn htk HHN HHK
  go_wp2
  go_loopg [15] K (fun g qv wr => ∃ q : Nat, q ≤ K ∧ g = K - q ∧ qv = .int .i64 (q : Nat) ∧ Below w6.heap.size w6 wr)
  case atStart => exact ⟨0, Nat.zero_le _, rfl, rfl, Below.refl _ _⟩
  case round =>
    obtain ⟨q, hqK, rfl, rfl, hbr⟩ := hrel
    have y1 := cell_below (B := 0) hbr k1'
    by_cases hlt : q < K
    · obtain ⟨y2', hsl⟩ := hsq q hlt
      have y2 := cell_below (B := 0) hbr y2'
      obtain ⟨aq, cq, eq, hcq⟩ := hsl
      rw [eq] at y2
      obtain ⟨hmn, hpq⟩ := pseq q hlt
      obtain ⟨l, hl⟩ : ∃ l, l = H.seq q := ⟨_, rfl⟩
      rw [← hl] at y2 hcq hmn hpq
      obtain ⟨m', hm'd⟩ : ∃ m', m' = l.length := ⟨_, rfl⟩
      rw [← hm'd] at y2 hcq hmn hpq
      clear y2' eq hl hm'd
      go_wp2
      go_loopg [17] (m' - 1) (fun g tv wr => ∃ t : Nat, g = m' - (t + 1) ∧ t ≤ m' ∧ tv = .int .i64 (t + 1 : Nat) ∧ Below w6.heap.size w6 wr)
      case atStart => exact ⟨0, rfl, Nat.zero_le _, rfl, hbr⟩
      case round =>
        obtain ⟨t, rfl, htm, rfl, hbr2⟩ := hrel
        by_cases hlt2 : t + 1 < m'
        · obtain ⟨b1, o1, rfl, z1⟩ := hcq (by omega)
          obtain ⟨u1, u2, u3, u4⟩ := hpq t hlt2
          have y3 := cell_below (B := 0) hbr2 (z1 t (by omega))
          have y4 := cell_below (B := 0) hbr2 (z1 (t + 1) hlt2)
          generalize l.getD t 0 = a at *
          generalize l.getD (t + 1) 0 = b at *
          have y5 := cell_below (B := 0) hbr2 (hpos.cell u1)
          have y6 := cell_below (B := 0) hbr2 (hpos.cell u2)
          have y7 := cell_below (B := 0) hbr2 (hhi6.cell u1)
          have y8 := cell_below (B := 0) hbr2 (hhi6.cell u2)
          generalize ix a = ia at *
          generalize ix b = ib at *
          generalize hg a = ha at *
          generalize hg b = hb at *
          go_wp2
          go_quiet (fail)
          go_wp2
          go_roundg (m' - (t + 2))
          case measure => omega
          case rel => exact ⟨t + 1, by omega, by omega, by go_num, below_drewN hbr2 _⟩
        · go_wp2
          go_roundg (K - (q + 1))
          case measure => omega
          case rel => exact ⟨q + 1, by omega, rfl, by go_num, hbr2⟩
    · clear hsq pseq
      have mkm := @run_makeMap Try.prog
      go_wp2
      clear mkm
      have hset0 := SetAt.made wr
      have hbr0 := hbr.alloc hbr.size (.map #[] 0)
      have hBge := hbr.size
      generalize wr.heap.size = B at hset0 hBge ⊢
      generalize wr.alloc (.map #[] 0) = wr1 at hset0 hbr0 ⊢
      clear y1 hbr
      go_loopg [21] n (fun g iv wr => ∃ i : Nat, i ≤ n ∧ g = n - i ∧ iv = .int .i64 (i : Nat) ∧ Below w6.heap.size w6 wr ∧ SetAt wr B (fun x => ∃ j, j < i ∧ H.put j = true ∧ x = H.ver j))
      case atStart => exact ⟨0, Nat.zero_le _, rfl, rfl, hbr0, hset0.mono (fun x ⟨j, h, _⟩ => absurd h (Nat.not_lt_zero j))⟩
      case round =>
        clear hbr0 hset0
        obtain ⟨i, hin, rfl, rfl, hbr, hset⟩ := hrel
        by_cases hlt : i < n
        · have z2 := cell_below (B := 0) hbr k0'
          have z3 := cell_below (B := 0) hbr (hopc i hlt).1
          have z4 := cell_below (B := 0) hbr (hopc i hlt).2
          cases hput : H.put i
          · rw [hput] at z3
            rw [show kindV false = .string ⟨#[103, 101, 116]⟩ from rfl] at z3
            go_wp2
            go_roundg (n - (i + 1))
            case measure => omega
            case rel =>
              refine ⟨i + 1, by omega, rfl, by go_num, hbr, hset.mono (fun x ⟨j, h1, h2, h3⟩ => ⟨j, ?_, h2, h3⟩)⟩
              by_cases e : j = i
              · subst e; rw [hput] at h2; cases h2
              · omega
          · rw [hput] at z3
            rw [show kindV true = .string ⟨#[112, 117, 116]⟩ from rfl] at z3
            obtain ⟨w7, hr7, hset7, hgr7⟩ := hset.update (pver i)
            have hbr7 : Below w6.heap.size w6 w7 := hbr.grown hgr7 hbr.size (fun j hj => by cases hj; exact hBge)
            clear hset hgr7
            go_wp2
            go_roundg (n - (i + 1))
            case measure => omega
            case rel =>
              refine ⟨i + 1, by omega, rfl, by go_num, hbr7, hset7.mono (fun x ⟨j, h1, h2, h3⟩ => ?_)⟩
              by_cases e : j = i
              · subst e; exact .inr h3
              · exact .inl ⟨j, by omega, h2, h3⟩
        · have hset1 : SetAt wr B (fun x => ∃ j, j < n ∧ H.put j = true ∧ x = H.ver j) := hset.mono (fun x ⟨j, h1, h2⟩ => ⟨j, by omega, h2⟩)
          clear hset
          go_wp2
          go_loopg [22] n (fun g iv wr => ∃ i : Nat, i ≤ n ∧ g = n - i ∧ iv = .int .i64 (i : Nat) ∧ Below w6.heap.size w6 wr ∧ SetAt wr B (fun x => ∃ j, j < n ∧ H.put j = true ∧ x = H.ver j))
          case atStart => exact ⟨0, Nat.zero_le _, rfl, rfl, hbr, hset1⟩
          case round =>
            clear hbr hset1 hlt hin
            obtain ⟨i, hin, rfl, rfl, hbr, hset⟩ := hrel
            by_cases hlt : i < n
            · have z2 := cell_below (B := 0) hbr k0'
              have z3 := cell_below (B := 0) hbr (hopc i hlt).1
              have z4 := cell_below (B := 0) hbr (hopc i hlt).2
              have z5 := cell_below (B := 0) hbr (hhi6.cell hlt)
              have z6 := cell_below (B := 0) hbr k4'
              obtain ⟨ai, ci, z7', hsl⟩ := hsrc i hlt
              have z7 := cell_below (B := 0) hbr z7'
              obtain ⟨hl20, hps⟩ := psrc i hlt
              have hpp := pput i hlt
              have hps2 := psome i
              have hph := phigh i
              have hpi := pidx i hlt
              have z8 := hpos.cell hlt
              have z9 := hhi6.cell hlt
              obtain ⟨l, hl⟩ : ∃ l, l = H.src i := ⟨_, rfl⟩
              rw [← hl] at z7 z7' hsl hl20 hps
              obtain ⟨m', hm'd⟩ : ∃ m', m' = l.length := ⟨_, rfl⟩
              rw [← hm'd] at z7 z7' hsl hl20 hps
              clear hl hm'd
              obtain ⟨X, hX⟩ : ∃ X, X = hg i := ⟨_, rfl⟩
              rw [← hX] at z5 hps hpp hps2 hph z9
              clear hX
              have hlk : X ≠ 0 → ∀ k, (Instr.lookup 41 (.map (some B)) (.int .u64 X) false).run Try.prog (wr.drewN k) = .ok (.bool true) (wr.drewN k) := fun h k => SetAt.lookup (SetAt.of_block (w' := wr.drewN k) hset rfl) hph (by
                rcases hps2 with e | e
                · exact absurd e h
                · exact e)
              obtain ⟨Y, hY⟩ : ∃ Y, Y = ix i := ⟨_, rfl⟩
              rw [← hY] at z8 hps
              clear hY hps2 hpi
              have key : ∀ k, Below w6.heap.size w6 (wr.drewN k) := fun k => below_drewN hbr k
              go_upto_region 37 with (fail)
              go_cut [175] (fun t wc => t = .bool false ∧ ∃ k, wc = wr.drewN k)
              case first =>
                cases hput : H.put i
                · rw [hput] at z3
                  rw [show kindV false = .string ⟨#[103, 101, 116]⟩ from rfl] at z3
                  go_quiet (fail)
                  go_wp2
                  go_meet
                  case rel => exact ⟨rfl, _, rfl⟩
                · rw [hput] at z3
                  rw [show kindV true = .string ⟨#[112, 117, 116]⟩ from rfl] at z3
                  have hvle := hpp hput
                  generalize H.ver i = V at *
                  go_quiet (fail)
                  go_wp2
                  go_meet
                  case rel => exact ⟨congrArg Value.bool (decide_eq_false (by omega)), _, rfl⟩
              case rest =>
                obtain ⟨rfl, k, rfl⟩ := hcut
                go_upto_region 39 with (fail)
                go_cut [189] (fun t wc => t = .bool false ∧ wc = wr.drewN k)
                case first =>
                  by_cases hX0 : X = 0
                  · subst hX0
                    go_wp2
                    go_meet
                    case rel => exact ⟨rfl, rfl⟩
                  · have hlk' := hlk hX0 k
                    go_wp2
                    go_meet
                    case rel => exact ⟨rfl, rfl⟩
                case rest =>
                  obtain ⟨rfl, rfl⟩ := hcut
                  clear hlk hpp z3 z4 z2 z5 z6 z7
                  have hbrk := key k
                  have hsetk : SetAt (wr.drewN k) B (fun x => ∃ j, j < n ∧ H.put j = true ∧ x = H.ver j) := SetAt.of_block (w' := wr.drewN k) hset rfl
                  clear key hset hbr
                  generalize wr.drewN k = wk at hbrk hsetk ⊢
                  obtain ⟨a', c', e', hcl⟩ := hsl
                  cases e'
                  go_wp2
                  go_loopg [23] m' (fun g tv wr => ∃ t : Nat, t ≤ m' ∧ g = m' - t ∧ tv = .int .i64 (t : Nat) ∧ Below w6.heap.size w6 wr ∧ SetAt wr B (fun x => ∃ j, j < n ∧ H.put j = true ∧ x = H.ver j))
                  case atStart => exact ⟨0, Nat.zero_le _, rfl, rfl, hbrk, hsetk⟩
                  case round =>
                    clear hbrk hsetk
                    obtain ⟨t, htm, rfl, rfl, hbr, hset⟩ := hrel
                    have z6 := cell_below (B := 0) hbr k4'
                    have z7 := cell_below (B := 0) hbr z7'
                    by_cases hlt2 : t < m'
                    · obtain ⟨b1, o1, rfl, y1⟩ := hcl (by omega)
                      obtain ⟨hpn, hple⟩ := hps t hlt2
                      have y3 := cell_below (B := 0) hbr (y1 t hlt2)
                      generalize l.getD t 0 = P at *
                      have y4 := cell_below (B := 0) hbr (hpos.cell hpn)
                      have y5 := cell_below (B := 0) hbr (hhi6.cell hpn)
                      have y6 := cell_below (B := 0) hbr z8
                      have y7 := cell_below (B := 0) hbr z9
                      generalize ix P = IP at *
                      generalize hg P = HP at *
                      go_upto_region 45 with (fail)
                      go_cut [227] (fun t wc => t = .bool false ∧ ∃ k, wc = wr.drewN k)
                      case first =>
                        by_cases hcmp : IP < Y
                        · have hle := hple hcmp
                          go_quiet (fail)
                          go_wp2
                          go_meet
                          case rel => exact ⟨congrArg Value.bool (decide_eq_false (by omega)), _, rfl⟩
                        · go_quiet (fail)
                          go_wp2
                          go_meet
                          case rel => exact ⟨rfl, _, rfl⟩
                      case rest =>
                        obtain ⟨rfl, k, rfl⟩ := hcut
                        go_wp2
                        go_roundg (m' - (t + 1))
                        case measure => omega
                        case rel => exact ⟨t + 1, by omega, rfl, by go_num, below_drewN hbr _, SetAt.of_block (w' := wr.drewN k) hset rfl⟩
                    · go_wp2
                      go_roundg (n - (i + 1))
                      case measure => omega
                      case rel => exact ⟨i + 1, by omega, rfl, by go_num, hbr, hset⟩
            · go_wp2
              exact HR.out _ (hb11.trans (hbr.mono hb11.size))
end Go.Proofs.Qxb6001561a
