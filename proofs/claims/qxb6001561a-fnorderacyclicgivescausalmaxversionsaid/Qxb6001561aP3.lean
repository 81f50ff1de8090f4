/-
  The plain law of FnOrderTakesEachOperationOnceInSessionOrder: no Go in sight.
-/
import Derived.Test.Qxb6001561aP1
namespace Go.Proofs.Qxb6001561a
set_option linter.unusedVariables false
set_option linter.unusedSimpArgs false

/-- what each step bears, adv bears -/
theorem adv_keep {H : Hist} {P : St → Prop} (hstep : ∀ st s, s < H.k → st.next s < (H.seq s).length → P st → P (stepSt H st s (opAt H st s))) (hwait : ∀ st p s, P st → P (waitSt st p s)) {s : Nat} (hs : s < H.k) :
    ∀ (fuel : Nat) (st : St) (f : Bool), P st → P (adv H fuel st s f).1
  | 0, st, f, h => h
  | fuel + 1, st, f, h => by
    simp only [adv]
    split
    · rename_i hlt
      split
      · exact hwait _ _ _ h
      · exact adv_keep hstep hwait hs fuel _ false (hstep _ _ hs hlt h)
    · exact h

theorem highFrom_ge (st : St) : ∀ (l : List Nat) (h : Int), h ≤ highFrom st h l
  | [], h => Int.le_refl h
  | p :: l, h => by
    show h ≤ highFrom st (if st.taken p then max h (st.high p) else h) l
    have := highFrom_ge st l (if st.taken p then max h (st.high p) else h)
    split at this <;> simp_all <;> omega
theorem highFrom_mem (st : St) : ∀ (l : List Nat) (h : Int) (p : Nat), p ∈ l → st.taken p = true → st.high p ≤ highFrom st h l
  | x :: l, h, p, hp, ht => by
    show _ ≤ highFrom st (if st.taken x then max h (st.high x) else h) l
    rcases List.mem_cons.1 hp with rfl | hp
    · have := highFrom_ge st l (if st.taken p then max h (st.high p) else h)
      rw [ht] at this ⊢
      simp only [if_true] at this ⊢
      omega
    · exact highFrom_mem st l _ p hp ht
theorem highFrom_some (st : St) (Q : Int → Prop) (hq : ∀ p, Q (st.high p)) : ∀ (l : List Nat) (h : Int), Q h → Q (highFrom st h l)
  | [], h, hh => hh
  | x :: l, h, hh => by
    show Q (highFrom st (if st.taken x then max h (st.high x) else h) l)
    refine highFrom_some st Q hq l _ ?_
    split
    · rcases Int.le_total h (st.high x) with e | e
      · rw [Int.max_eq_right e]; exact hq x
      · rw [Int.max_eq_left e]; exact hh
    · exact hh

theorem high0_le_highOf (H : Hist) (st : St) (i : Nat) : high0 H st i ≤ highOf H st i := by
  have := highFrom_ge st (H.src i) (high0 H st i)
  unfold highOf; split <;> omega
theorem src_le_highOf {H : Hist} {st : St} {i p : Nat} (hp : p ∈ H.src i) (ht : st.taken p = true) : st.high p ≤ highOf H st i := by
  have := highFrom_mem st (H.src i) (high0 H st i) p hp ht
  unfold highOf; split <;> omega
theorem ver_le_highOf {H : Hist} {st : St} {i : Nat} (h : H.put i = true) : H.ver i ≤ highOf H st i := by
  unfold highOf; rw [if_pos h]; omega

theorem idxOf_snoc_mem {l : List Nat} {i a : Nat} (h : a ∈ l) : (l ++ [i]).idxOf a = l.idxOf a := by
  rw [List.idxOf_append, if_pos h]
theorem idxOf_snoc_new {l : List Nat} {i : Nat} (h : i ∉ l) : (l ++ [i]).idxOf i = l.length := by
  rw [List.idxOf_append, if_neg h]; simp
theorem idxOf_lt {l : List Nat} {a : Nat} (h : a ∈ l) : l.idxOf a < l.length := List.idxOf_lt_length_iff.2 h

/-- WHAT THE ORDERING KEEPS, sources in cycles too. -/
structure J2 (H : Hist) (st : St) : Prop where
  mem : ∀ i, i ∈ st.ord ↔ st.taken i = true
  nodup : st.ord.Nodup
  next : ∀ s, s < H.k → st.next s ≤ (H.seq s).length
  tk : ∀ s, s < H.k → ∀ u, u < (H.seq s).length → (st.taken ((H.seq s).getD u 0) = true ↔ u < st.next s)
  lt : ∀ i, i ∈ st.ord → i < H.n
  len : st.ord.length = sumL st.next H.k
  inOrd : ∀ s, s < H.k → ∀ u v, u < v → v < st.next s → st.ord.idxOf ((H.seq s).getD u 0) < st.ord.idxOf ((H.seq s).getD v 0)
  mono : ∀ s, s < H.k → ∀ u, u + 1 < st.next s → st.high ((H.seq s).getD u 0) ≤ st.high ((H.seq s).getD (u + 1) 0)
  put : ∀ i, st.taken i = true → H.put i = true → H.ver i ≤ st.high i
  some : ∀ i, st.high i = 0 ∨ ∃ j, j < H.n ∧ H.put j = true ∧ st.high i = H.ver j
  src : ∀ i p, st.taken i = true → p ∈ H.src i → st.taken p = true → st.ord.idxOf p < st.ord.idxOf i → st.high p ≤ st.high i

theorem J2.start (H : Hist) : J2 H St.start := by
  refine ⟨fun i => ?_, List.nodup_nil, fun s _ => Nat.zero_le _, fun s _ u _ => ?_, fun i hi => (by cases hi), ?_, fun s _ u v _ hv => absurd hv (Nat.not_lt_zero v), fun s _ u hu => absurd hu (Nat.not_lt_zero _), fun i hi => (by cases hi), fun i => .inl rfl, fun i p hi => (by cases hi)⟩
  · simp [St.start]
  · simp [St.start]
  · have h3 : ∀ n, sumL (fun _ => 0) n = 0 := by
      intro n; induction n with
      | zero => rfl
      | succ n ih => simp [sumL, ih]
    exact (h3 H.k).symm

theorem J2.step {H : Hist} (hH : HistOK H) (hS : SeqOK H) {st : St} {s : Nat} (hs : s < H.k) (hlt : st.next s < (H.seq s).length) (h : J2 H st) : J2 H (stepSt H st s (opAt H st s)) := by
  obtain ⟨i, hi⟩ : ∃ i, i = opAt H st s := ⟨_, rfl⟩
  have hie : i = (H.seq s).getD (st.next s) 0 := hi
  rw [← hi]
  have himem : i ∈ H.seq s := by rw [hie]; exact getD_mem' hlt
  have hin : i < H.n := hH.seqLt s hs i himem
  have hnt : ¬ st.taken i = true := by rw [hie, h.tk s hs _ hlt]; omega
  have hno : i ∉ st.ord := fun hm => hnt ((h.mem i).1 hm)
  -- another place of a session holds another operation
  have hne : ∀ q, q < H.k → ∀ u, u < (H.seq q).length → ¬ (q = s ∧ u = st.next s) → (H.seq q).getD u 0 ≠ i := fun q hq u hu hno' e => by
    have e1 := hS.sess q hq _ (getD_mem' hu)
    have e2 := hS.sess s hs _ himem
    rw [e] at e1
    have e3 : q = s := by omega
    subst e3
    exact hno' ⟨rfl, getD_inj (hS.nodup q hq) hu hlt (by rw [e, hie])⟩
  have htk : ∀ j, (stepSt H st s i).taken j = if j = i then true else st.taken j := fun j => rfl
  have hhi : ∀ j, (stepSt H st s i).high j = if j = i then highOf H st i else st.high j := fun j => rfl
  have hor : (stepSt H st s i).ord = st.ord ++ [i] := rfl
  have hnx : ∀ q, (stepSt H st s i).next q = if q = s then st.next s + 1 else st.next q := fun q => rfl
  have hmem' : ∀ j, j ∈ st.ord ++ [i] ↔ (stepSt H st s i).taken j = true := fun j => by
    rw [List.mem_append, List.mem_singleton, htk, h.mem j]
    by_cases e : j = i
    · simp [e]
    · simp [e]
  refine ⟨fun j => by rw [hor]; exact hmem' j, ?_, fun q hq => ?_, fun q hq u hu => ?_, fun j hj => ?_, ?_, fun q hq u v huv hv => ?_, fun q hq u hu => ?_, fun j hj hp => ?_, fun j => ?_, fun j p hj hp hpt hix => ?_⟩
  · rw [hor, List.nodup_append]
    refine ⟨h.nodup, by simp, fun a ha b hb e => ?_⟩
    rw [List.mem_singleton] at hb
    subst hb; subst e; exact hno ha
  · rw [hnx]
    split
    · rename_i e; subst e; omega
    · exact h.next q hq
  · rw [htk, hnx]
    by_cases e : q = s ∧ u = st.next s
    · obtain ⟨rfl, rfl⟩ := e
      rw [if_pos hie.symm, if_pos rfl]
      simp
    · rw [if_neg (hne q hq u hu e), h.tk q hq u hu]
      split
      · rename_i e2; subst e2
        constructor <;> intro hh <;> omega
      · exact Iff.rfl
  · rw [hor, List.mem_append, List.mem_singleton] at hj
    rcases hj with hj | rfl
    · exact h.lt j hj
    · exact hin
  · rw [hor, List.length_append, List.length_singleton, h.len]
    have hu := sumL_upd (L := st.next) (L' := (stepSt H st s i).next) (a := s) H.k hs (fun j _ hne => by rw [hnx, if_neg hne])
    rw [hnx, if_pos rfl] at hu
    omega
  · rw [hor]
    rw [hnx] at hv
    by_cases e : q = s
    · subst e
      rw [if_pos rfl] at hv
      have hu0 : (H.seq q).getD u 0 ∈ st.ord := (h.mem _).2 ((h.tk q hq u (by omega)).2 (by omega))
      rw [idxOf_snoc_mem hu0]
      by_cases e2 : v = st.next q
      · subst e2
        rw [← hie, idxOf_snoc_new hno]
        exact idxOf_lt hu0
      · have hv0 : (H.seq q).getD v 0 ∈ st.ord := (h.mem _).2 ((h.tk q hq v (by omega)).2 (by omega))
        rw [idxOf_snoc_mem hv0]
        exact h.inOrd q hq u v huv (by omega)
    · rw [if_neg e] at hv
      have hl := h.next q hq
      have hu0 : (H.seq q).getD u 0 ∈ st.ord := (h.mem _).2 ((h.tk q hq u (by omega)).2 (by omega))
      have hv0 : (H.seq q).getD v 0 ∈ st.ord := (h.mem _).2 ((h.tk q hq v (by omega)).2 (by omega))
      rw [idxOf_snoc_mem hu0, idxOf_snoc_mem hv0]
      exact h.inOrd q hq u v huv hv
  · rw [hnx] at hu
    rw [hhi, hhi]
    by_cases e : q = s
    · subst e
      rw [if_pos rfl] at hu
      rw [if_neg (hne q hq u (by omega) (fun e => by omega))]
      by_cases e2 : u + 1 = st.next q
      · rw [e2, if_pos hie.symm]
        refine Int.le_trans (Int.le_of_eq ?_) (high0_le_highOf H st i)
        have hpl : H.place i = st.next q + 1 := by rw [hie]; exact hS.place q hq _ hlt
        have hse : H.sess i = q := hS.sess q hq _ himem
        unfold high0
        rw [hpl, hse, if_pos (by omega), show st.next q + 1 - 2 = u by omega]
      · rw [if_neg (hne q hq (u + 1) (by omega) (fun e => by omega))]
        exact h.mono q hq u (by omega)
    · rw [if_neg e] at hu
      have hl := h.next q hq
      rw [if_neg (hne q hq u (by omega) (fun e' => e e'.1)), if_neg (hne q hq (u + 1) (by omega) (fun e' => e e'.1))]
      exact h.mono q hq u hu
  · rw [htk] at hj
    rw [hhi]
    by_cases e : j = i
    · rw [if_pos e, e]; exact ver_le_highOf (e ▸ hp)
    · rw [if_neg e] at hj ⊢; exact h.put j hj hp
  · rw [hhi]
    by_cases e : j = i
    · rw [if_pos e]
      have h0 : (fun x : Int => x = 0 ∨ ∃ j, j < H.n ∧ H.put j = true ∧ x = H.ver j) (high0 H st i) := by
        unfold high0; split
        · exact h.some _
        · exact .inl rfl
      have hf := highFrom_some st (fun x : Int => x = 0 ∨ ∃ j, j < H.n ∧ H.put j = true ∧ x = H.ver j) h.some (H.src i) _ h0
      unfold highOf
      split
      · rename_i hp
        rcases Int.le_total (highFrom st (high0 H st i) (H.src i)) (H.ver i) with e1 | e1
        · rw [Int.max_eq_right e1]; exact .inr ⟨i, hin, hp, rfl⟩
        · rw [Int.max_eq_left e1]; exact hf
      · exact hf
    · rw [if_neg e]; exact h.some j
  · rw [hor] at hix
    rw [htk] at hj hpt
    rw [hhi, hhi]
    by_cases e : j = i
    · subst e
      rw [idxOf_snoc_new hno] at hix
      have hpi : p ≠ j := fun e2 => by
        subst e2
        rw [idxOf_snoc_new hno] at hix
        omega
      rw [if_pos rfl, if_neg hpi]
      rw [if_neg hpi] at hpt
      exact src_le_highOf hp hpt
    · rw [if_neg e] at hj
      have hjo := (h.mem j).2 hj
      rw [idxOf_snoc_mem hjo] at hix
      have hpi : p ≠ i := fun e2 => by
        subst e2
        rw [idxOf_snoc_new hno] at hix
        have := idxOf_lt hjo
        omega
      rw [if_neg hpi] at hpt
      rw [idxOf_snoc_mem ((h.mem p).2 hpt)] at hix
      rw [if_neg e, if_neg hpi]
      exact h.src j p hj hp hpt hix

theorem J2.wait {H : Hist} {st : St} (p s : Nat) (h : J2 H st) : J2 H (waitSt st p s) := ⟨h.mem, h.nodup, h.next, h.tk, h.lt, h.len, h.inOrd, h.mono, h.put, h.some, h.src⟩

theorem J2.adv {H : Hist} (hH : HistOK H) (hS : SeqOK H) {s : Nat} (hs : s < H.k) (fuel : Nat) {st : St} (f : Bool) (h : J2 H st) : J2 H (adv H fuel st s f).1 :=
  adv_keep (P := J2 H) (fun st s hs hlt h => h.step hH hS hs hlt) (fun st p s h => h.wait p s) hs fuel st f h

/-- at the end: every operation has been taken -/
theorem J2.done {H : Hist} {st : St} (h : J2 H st) (hfin : ∀ s, s < H.k → ¬ st.next s < (H.seq s).length) (htot : sumL (fun s => (H.seq s).length) H.k = H.n) (hall : ∀ i, i < H.n → H.sess i < H.k ∧ i ∈ H.seq (H.sess i)) :
    st.ord.length = H.n ∧ (∀ i, i < H.n → i ∈ st.ord) ∧ ∀ s, s < H.k → st.next s = (H.seq s).length := by
  have hn : ∀ s, s < H.k → st.next s = (H.seq s).length := fun s hs => by
    have := h.next s hs
    have := hfin s hs
    omega
  refine ⟨by rw [h.len, ← htot]; exact sumL_congr _ hn, fun i hi => ?_, hn⟩
  obtain ⟨h1, h2⟩ := hall i hi
  obtain ⟨u, hu, e⟩ := List.getElem_of_mem h2
  have e' : (H.seq (H.sess i)).getD u 0 = i := by rw [List.getD_eq_getElem?_getD, List.getElem?_eq_getElem hu]; exact e
  have := (h.tk _ h1 u hu).2 (by rw [hn _ h1]; exact hu)
  rw [e'] at this
  exact (h.mem i).2 this
end Go.Proofs.Qxb6001561a
