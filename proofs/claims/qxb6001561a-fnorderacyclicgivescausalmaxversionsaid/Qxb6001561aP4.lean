/-
  The plain law of FnOrderAcyclicGivesCausalMaxVersion: no Go in sight.
-/
import Derived.Test.Qxb6001561aP3
namespace Go.Proofs.Qxb6001561a
set_option linter.unusedVariables false
set_option linter.unusedSimpArgs false

def mval (H : Hist) (m : Nat → Int) (i : Nat) : Int :=
  if H.put i then max ((H.src i).foldl (fun h p => max h (m p)) (if 1 < H.place i then m ((H.seq (H.sess i)).getD (H.place i - 2) 0) else 0)) (H.ver i)
  else (H.src i).foldl (fun h p => max h (m p)) (if 1 < H.place i then m ((H.seq (H.sess i)).getD (H.place i - 2) 0) else 0)

/-- every source, and the operation ahead in the session, is of smaller index -/
structure Back (H : Hist) : Prop where
  src : ∀ i, i < H.n → ∀ p, p ∈ H.src i → p < i
  seq : ∀ s, s < H.k → ∀ u v, u < v → v < (H.seq s).length → (H.seq s).getD u 0 < (H.seq s).getD v 0
  prev : ∀ i, i < H.n → 1 < H.place i → (H.seq (H.sess i)).getD (H.place i - 2) 0 < i
  all : ∀ i, i < H.n → H.sess i < H.k ∧ i ∈ H.seq (H.sess i)

theorem foldl_max_congr {m m' : Nat → Int} : ∀ (l : List Nat) (h : Int), (∀ p, p ∈ l → m p = m' p) → l.foldl (fun h p => max h (m p)) h = l.foldl (fun h p => max h (m' p)) h
  | [], _, _ => rfl
  | p :: l, h, hp => by
    simp only [List.foldl_cons]
    rw [hp p (by simp)]
    exact foldl_max_congr l _ (fun q hq => hp q (by simp [hq]))

theorem mval_congr {H : Hist} (hB : Back H) {m m' : Nat → Int} {i : Nat} (hi : i < H.n) (h : ∀ j, j < i → m j = m' j) : mval H m i = mval H m' i := by
  unfold mval
  have e1 : (if 1 < H.place i then m ((H.seq (H.sess i)).getD (H.place i - 2) 0) else 0) = (if 1 < H.place i then m' ((H.seq (H.sess i)).getD (H.place i - 2) 0) else 0) := by
    split
    · exact h _ (hB.prev i hi (by assumption))
    · rfl
  rw [e1, foldl_max_congr (H.src i) _ (fun p hp => h p (hB.src i hi p hp))]

/-- the table of the greatest versions in the causal past, filled up to index j -/
def Mt (H : Hist) : Nat → (Nat → Int)
  | 0 => fun _ => 0
  | j + 1 => upd (Mt H j) j (mval H (Mt H j) j)
def Mx (H : Hist) (i : Nat) : Int := Mt H (i + 1) i
theorem Mt_lt (H : Hist) : ∀ (j i : Nat), i < j → Mt H j i = Mx H i
  | 0, i, h => absurd h (Nat.not_lt_zero i)
  | j + 1, i, h => by
    by_cases e : i = j
    · subst e; rfl
    · show upd (Mt H j) j _ i = _
      rw [upd_other _ _ e]; exact Mt_lt H j i (by omega)
theorem Mx_eq {H : Hist} (hB : Back H) {i : Nat} (hi : i < H.n) : Mx H i = mval H (Mx H) i := by
  show upd (Mt H i) i (mval H (Mt H i) i) i = _
  rw [upd_same]
  exact mval_congr hB hi (fun j hj => Mt_lt H i j hj)

theorem highFrom_all {st : St} : ∀ (l : List Nat) (h : Int), (∀ p, p ∈ l → st.taken p = true) → highFrom st h l = l.foldl (fun h p => max h (st.high p)) h
  | [], _, _ => rfl
  | p :: l, h, hp => by
    show highFrom st (if st.taken p then max h (st.high p) else h) l = _
    rw [hp p (by simp), if_pos rfl, List.foldl_cons]
    exact highFrom_all l _ (fun q hq => hp q (by simp [hq]))
theorem highOf_all {H : Hist} {st : St} {i : Nat} (h : ∀ p, p ∈ H.src i → st.taken p = true) : highOf H st i = mval H st.high i := by
  unfold highOf mval high0
  rw [highFrom_all _ _ h]

/-- what stands of the operations that have been taken -/
structure J3 (H : Hist) (st : St) : Prop where
  j2 : J2 H st
  srcs : ∀ i p, st.taken i = true → p ∈ H.src i → st.taken p = true ∧ st.ord.idxOf p < st.ord.idxOf i
  high : ∀ i, st.taken i = true → st.high i = Mx H i

/-- session s waits for a source that is still to be taken -/
def Waits (H : Hist) (st : St) (s : Nat) : Prop := ∃ p, p ∈ H.src (opAt H st s) ∧ st.taken p = false ∧ s ∈ st.wait p

structure J3q (H : Hist) (st : St) (q : List Nat) : Prop where
  j3 : J3 H st
  way : ∀ s, s < H.k → st.next s < (H.seq s).length → s ∈ q ∨ Waits H st s

theorem J3.step {H : Hist} (hH : HistOK H) (hS : SeqOK H) (hB : Back H) {st : St} {s : Nat} (hs : s < H.k) (hlt : st.next s < (H.seq s).length) (h : J3 H st) (hp : pend H st (opAt H st s) = none) : J3 H (stepSt H st s (opAt H st s)) := by
  have h2 := h.j2.step hH hS hs hlt
  obtain ⟨i, hi⟩ : ∃ i, i = opAt H st s := ⟨_, rfl⟩
  have hie : i = (H.seq s).getD (st.next s) 0 := hi
  rw [← hi] at hp h2 ⊢
  have himem : i ∈ H.seq s := by rw [hie]; exact getD_mem' hlt
  have hin : i < H.n := hH.seqLt s hs i himem
  have hnt : ¬ st.taken i = true := by rw [hie, h.j2.tk s hs _ hlt]; omega
  have hno : i ∉ st.ord := fun hm => hnt ((h.j2.mem i).1 hm)
  have hall : ∀ p, p ∈ H.src i → st.taken p = true := fun p hpm => by
    have := List.find?_eq_none.1 hp p hpm
    simpa using this
  have htk : ∀ j, (stepSt H st s i).taken j = if j = i then true else st.taken j := fun j => rfl
  have hhi : ∀ j, (stepSt H st s i).high j = if j = i then highOf H st i else st.high j := fun j => rfl
  have hor : (stepSt H st s i).ord = st.ord ++ [i] := rfl
  refine ⟨h2, fun j p hj hpm => ?_, fun j hj => ?_⟩
  · rw [htk] at hj
    rw [htk, hor]
    by_cases e : j = i
    · subst e
      have h1 := hall p hpm
      have hpo := (h.j2.mem p).2 h1
      refine ⟨by split <;> simp_all, ?_⟩
      rw [idxOf_snoc_new hno, idxOf_snoc_mem hpo]
      exact idxOf_lt hpo
    · rw [if_neg e] at hj
      obtain ⟨h1, h3⟩ := h.srcs j p hj hpm
      refine ⟨by split <;> simp_all, ?_⟩
      rw [idxOf_snoc_mem ((h.j2.mem p).2 h1), idxOf_snoc_mem ((h.j2.mem j).2 hj)]
      exact h3
  · rw [htk] at hj
    rw [hhi]
    by_cases e : j = i
    · rw [if_pos e, e, highOf_all hall, Mx_eq hB hin]
      have hpv : 1 < H.place i → st.taken ((H.seq (H.sess i)).getD (H.place i - 2) 0) = true := fun h1 => by
        have hpl : H.place i = st.next s + 1 := by rw [hie]; exact hS.place s hs _ hlt
        have hse : H.sess i = s := hS.sess s hs _ himem
        rw [hpl] at h1
        rw [hse, hpl]
        exact (h.j2.tk s hs _ (by omega)).2 (by omega)
      unfold mval
      have e1 : (if 1 < H.place i then st.high ((H.seq (H.sess i)).getD (H.place i - 2) 0) else 0) = (if 1 < H.place i then Mx H ((H.seq (H.sess i)).getD (H.place i - 2) 0) else 0) := by
        split
        · exact h.high _ (hpv (by assumption))
        · rfl
      rw [e1, foldl_max_congr (H.src i) _ (fun p hpm => h.high p (hall p hpm))]
    · rw [if_neg e] at hj ⊢
      exact h.high j hj

theorem J3q.adv {H : Hist} (hH : HistOK H) (hS : SeqOK H) (hB : Back H) {s : Nat} (hs : s < H.k) : ∀ (fuel : Nat) (st : St) (q : List Nat), J3 H st → (∀ x, x < H.k → x ≠ s → st.next x < (H.seq x).length → x ∈ q ∨ Waits H st x) → (H.seq s).length - st.next s < fuel →
    J3q H (adv H fuel st s false).1 (q ++ (adv H fuel st s false).2)
  | 0, st, q, _, _, hf => absurd hf (Nat.not_lt_zero _)
  | fuel + 1, st, q, h, hw, hf => by
    by_cases hlt : st.next s < (H.seq s).length
    · cases hp : pend H st (opAt H st s) with
      | some p =>
        have e : Go.Proofs.Qxb6001561a.adv H (fuel + 1) st s false = (waitSt st p s, []) := by
          simp only [Go.Proofs.Qxb6001561a.adv, if_pos hlt, hp]
          simp
        rw [e]
        have hpm := List.mem_of_find?_eq_some hp
        have hpt : st.taken p = false := by have := List.find?_some hp; simpa using this
        refine ⟨⟨h.j2.wait p s, h.srcs, h.high⟩, fun x hx hxl => ?_⟩
        by_cases ex : x = s
        · subst ex
          refine .inr ⟨p, hpm, hpt, ?_⟩
          simp only [waitSt, upd_same]; simp
        · rcases hw x hx ex hxl with h1 | ⟨p', h1, h2, h3⟩
          · exact .inl (by simp [h1])
          · refine .inr ⟨p', h1, h2, ?_⟩
            by_cases e2 : p' = p
            · subst e2; simp only [waitSt, upd_same]; simp [h3]
            · simp only [waitSt, upd_other _ _ e2]; exact h3
      | none =>
        have e : Go.Proofs.Qxb6001561a.adv H (fuel + 1) st s false = ((Go.Proofs.Qxb6001561a.adv H fuel (stepSt H st s (opAt H st s)) s false).1, st.wait (opAt H st s) ++ (Go.Proofs.Qxb6001561a.adv H fuel (stepSt H st s (opAt H st s)) s false).2) := by
          simp only [Go.Proofs.Qxb6001561a.adv, if_pos hlt, hp]
          rw [if_neg (by rintro ⟨_, h2⟩; cases h2)]
        rw [e]
        have ih := J3q.adv hH hS hB hs fuel (stepSt H st s (opAt H st s)) (q ++ st.wait (opAt H st s)) (h.step hH hS hB hs hlt hp) (fun x hx ex hxl => ?_) (by simp only [stepSt, upd_same]; omega)
        · rw [List.append_assoc] at ih; exact ih
        · have hnx : (stepSt H st s (opAt H st s)).next x = st.next x := by simp only [stepSt, upd_other _ _ ex]
          have hop : opAt H (stepSt H st s (opAt H st s)) x = opAt H st x := by
            show (H.seq x).getD ((stepSt H st s (opAt H st s)).next x) 0 = _
            rw [hnx]; rfl
          rw [hnx] at hxl
          rcases hw x hx ex hxl with h1 | ⟨p', h1, h2, h3⟩
          · exact .inl (by simp [h1])
          · by_cases e2 : p' = opAt H st s
            · subst e2; exact .inl (by simp [h3])
            · refine .inr ⟨p', by rw [hop]; exact h1, ?_, ?_⟩
              · simp only [stepSt, takeSt, upd_other _ _ e2]; exact h2
              · simp only [stepSt, upd_other _ _ e2]; exact h3
    · have e : Go.Proofs.Qxb6001561a.adv H (fuel + 1) st s false = (st, []) := by simp only [Go.Proofs.Qxb6001561a.adv, if_neg hlt]
      rw [e]
      refine ⟨h, fun x hx hxl => ?_⟩
      by_cases ex : x = s
      · subst ex; exact absurd hxl hlt
      · rcases hw x hx ex hxl with h1 | h1
        · exact .inl (by simp [h1])
        · exact .inr h1

/-- nothing is stuck -/
theorem J3q.free {H : Hist} (hB : Back H) (hH : HistOK H) {st : St} (h : J3q H st []) : ∀ (m s : Nat), s < H.k → st.next s < (H.seq s).length → opAt H st s ≤ m → False
  | m, s, hs, hlt, hm => by
    rcases h.way s hs hlt with h1 | ⟨p, hp, hpt, _⟩
    · cases h1
    have hin := opAt_lt hH hs hlt
    have hpl := hB.src _ hin p hp
    obtain ⟨a1, a2⟩ := hB.all p (by omega)
    obtain ⟨u, hu, e⟩ := List.getElem_of_mem a2
    have e' : (H.seq (H.sess p)).getD u 0 = p := by rw [List.getD_eq_getElem?_getD, List.getElem?_eq_getElem hu]; exact e
    have hnu : ¬ u < st.next (H.sess p) := fun hlt' => by
      have := (h.j3.j2.tk _ a1 u hu).2 hlt'
      rw [e', hpt] at this; cases this
    have hle : opAt H st (H.sess p) ≤ p := by
      unfold opAt
      by_cases eu : st.next (H.sess p) = u
      · rw [eu, e']; exact Nat.le_refl _
      · have := hB.seq _ a1 (st.next (H.sess p)) u (by omega) hu
        rw [e'] at this; omega
    cases m with
    | zero => omega
    | succ m => exact J3q.free hB hH h m (H.sess p) a1 (by omega) (by omega)

theorem J3q.start (H : Hist) : J3q H St.start (List.range H.k) :=
  ⟨⟨J2.start H, fun i p hi => (by cases hi), fun i hi => (by cases hi)⟩, fun s hs _ => .inl (List.mem_range.2 hs)⟩
end Go.Proofs.Qxb6001561a
