/-
  The plain law of FnOrderWithoutSourcesRunsSessionsInTurn: no Go in sight.
-/
import Derived.Test.Qxb6001561aP0
namespace Go.Proofs.Qxb6001561a
set_option linter.unusedVariables false
set_option linter.unusedSimpArgs false

/-- the greatest version of a Put in l, or 0 -/
def bestPre (H : Hist) (l : List Nat) : Int := l.foldl (fun h i => if H.put i then max h (H.ver i) else h) 0
theorem bestPre_snoc (H : Hist) (l : List Nat) (i : Nat) : bestPre H (l ++ [i]) = if H.put i then max (bestPre H l) (H.ver i) else bestPre H l := by
  simp only [bestPre, List.foldl_append, List.foldl_cons, List.foldl_nil]

/-- each session's operations lie in place, apart from the other sessions' -/
structure SeqOK (H : Hist) : Prop where
  sess : ∀ s, s < H.k → ∀ i, i ∈ H.seq s → H.sess i = s
  place : ∀ s, s < H.k → ∀ t, t < (H.seq s).length → H.place ((H.seq s).getD t 0) = t + 1
  nodup : ∀ s, s < H.k → (H.seq s).Nodup

theorem getD_mem' {l : List Nat} {t : Nat} (ht : t < l.length) : l.getD t 0 ∈ l := by
  rw [List.getD_eq_getElem?_getD, List.getElem?_eq_getElem ht]; exact List.getElem_mem ht
theorem getD_inj {l : List Nat} (h : l.Nodup) {a b : Nat} (ha : a < l.length) (hb : b < l.length) (e : l.getD a 0 = l.getD b 0) : a = b := by
  rw [List.getD_eq_getElem?_getD, List.getElem?_eq_getElem ha, List.getD_eq_getElem?_getD, List.getElem?_eq_getElem hb] at e
  have hp := List.pairwise_iff_getElem.1 h
  rcases Nat.lt_trichotomy a b with h1 | h1 | h1
  · exact absurd e (hp a b ha hb h1)
  · exact h1
  · exact absurd e.symm (hp b a hb ha h1)
theorem take_succ_getD {l : List Nat} {t : Nat} (h : t < l.length) : l.take (t + 1) = l.take t ++ [l.getD t 0] := by
  rw [List.take_succ_eq_append_getElem h, List.getD_eq_getElem?_getD, List.getElem?_eq_getElem h]; rfl

/-- after session s has been taken up to place t -/
structure Run1 (H : Hist) (s t : Nat) (st0 st : St) : Prop where
  next : ∀ q, q ≠ s → st.next q = st0.next q
  nexts : st.next s = t
  ord : st.ord = st0.ord ++ (H.seq s).take t
  wait : ∀ p, st.wait p = []
  out : ∀ i, i ∉ H.seq s → st.high i = st0.high i
  high : ∀ u, u < t → st.high ((H.seq s).getD u 0) = bestPre H ((H.seq s).take (u + 1))

theorem Run1.step {H : Hist} (hS : SeqOK H) (hsrc : ∀ i, H.src i = []) {s t : Nat} (hs : s < H.k) {st0 st : St} (h : Run1 H s t st0 st) (ht : t < (H.seq s).length) : Run1 H s (t + 1) st0 (stepSt H st s (opAt H st s)) := by
  have hop : opAt H st s = (H.seq s).getD t 0 := by unfold opAt; rw [h.nexts]
  have hmem := getD_mem' ht
  have hpl := hS.place s hs t ht
  have hse := hS.sess s hs _ hmem
  have hho : highOf H st ((H.seq s).getD t 0) = bestPre H ((H.seq s).take (t + 1)) := by
    have h0 : high0 H st ((H.seq s).getD t 0) = bestPre H ((H.seq s).take t) := by
      unfold high0
      rw [hpl, hse]
      cases t with
      | zero => simp [bestPre]
      | succ u =>
        rw [if_pos (by omega), show u + 1 + 1 - 2 = u by omega]
        exact h.high u (by omega)
    rw [take_succ_getD ht, bestPre_snoc]
    unfold highOf
    rw [hsrc, h0]
    rfl
  rw [hop]
  refine ⟨fun q hq => ?_, ?_, ?_, fun p => ?_, fun i hi => ?_, fun u hu => ?_⟩
  · simp only [stepSt, upd_other _ _ hq]; exact h.next q hq
  · simp only [stepSt, upd_same, h.nexts]
  · show st.ord ++ [(H.seq s).getD t 0] = _
    rw [h.ord, take_succ_getD ht, List.append_assoc]
  · by_cases e : p = (H.seq s).getD t 0
    · subst e; simp only [stepSt, upd_same]
    · simp only [stepSt, upd_other _ _ e]; exact h.wait p
  · have e : i ≠ (H.seq s).getD t 0 := fun e => hi (e ▸ hmem)
    simp only [stepSt, takeSt, upd_other _ _ e]; exact h.out i hi
  · by_cases e : u = t
    · subst e; simp only [stepSt, takeSt, upd_same]; exact hho
    · have hne : (H.seq s).getD u 0 ≠ (H.seq s).getD t 0 := fun e2 => e (getD_inj (hS.nodup s hs) (by omega) ht e2)
      simp only [stepSt, takeSt, upd_other _ _ hne]; exact h.high u (by omega)

theorem adv_all {H : Hist} (hS : SeqOK H) (hsrc : ∀ i, H.src i = []) {s : Nat} (hs : s < H.k) {st0 : St} : ∀ (fuel t : Nat) (st : St) (f : Bool), Run1 H s t st0 st → t ≤ (H.seq s).length → (H.seq s).length - t < fuel →
    Run1 H s (H.seq s).length st0 (adv H fuel st s f).1 ∧ (adv H fuel st s f).2 = []
  | 0, t, st, f, _, _, hf => absurd hf (Nat.not_lt_zero _)
  | fuel + 1, t, st, f, h, ht, hf => by
    have hp : pend H st (opAt H st s) = none := by unfold pend; rw [hsrc]; rfl
    by_cases hlt : t < (H.seq s).length
    · have hn : st.next s < (H.seq s).length := by rw [h.nexts]; exact hlt
      have hno : ¬ (f = false ∧ (pend H st (opAt H st s)).isSome = true) := by rw [hp]; rintro ⟨_, h2⟩; cases h2
      have ih := adv_all hS hsrc hs fuel (t + 1) _ false (h.step hS hsrc hs hlt) hlt (by omega)
      simp only [adv, if_pos hn, if_neg hno]
      refine ⟨ih.1, ?_⟩
      rw [h.wait, ih.2]; rfl
    · have hn : ¬ st.next s < (H.seq s).length := by rw [h.nexts]; exact hlt
      have ht' : t = (H.seq s).length := by omega
      rw [show adv H (fuel + 1) st s f = (st, []) by simp only [adv, if_neg hn]]
      exact ⟨ht' ▸ h, rfl⟩

/-- the first c sessions have been taken, each whole and in its turn -/
structure J1 (H : Hist) (st : St) (q : List Nat) : Prop where
  ex : ∃ c, c ≤ H.k ∧ q = (List.range H.k).drop c ∧ (∀ s, s < c → st.next s = (H.seq s).length) ∧ (∀ s, c ≤ s → s < H.k → st.next s = 0) ∧ st.ord = (List.range c).flatMap H.seq ∧ (∀ p, st.wait p = []) ∧
    ∀ s, s < c → ∀ u, u < (H.seq s).length → st.high ((H.seq s).getD u 0) = bestPre H ((H.seq s).take (u + 1))

theorem J1.start (H : Hist) : J1 H St.start (List.range H.k) :=
  ⟨0, Nat.zero_le _, by simp, fun s hs => absurd hs (Nat.not_lt_zero s), fun s _ _ => rfl, rfl, fun _ => rfl, fun s hs => absurd hs (Nat.not_lt_zero s)⟩

theorem J1.turn {H : Hist} (hS : SeqOK H) (hsrc : ∀ i, H.src i = []) (hH : HistOK H) {st : St} {s : Nat} {q : List Nat} (hs : s < H.k) (h : J1 H st (s :: q)) : J1 H (adv H (H.n + 1) st s false).1 (q ++ (adv H (H.n + 1) st s false).2) := by
  obtain ⟨c, hc, hq, hd, hz, ho, hw, hh⟩ := h.ex
  have hck : c < H.k := by
    rcases Nat.lt_or_ge c H.k with h1 | h1
    · exact h1
    · rw [List.drop_of_length_le (by simp; omega)] at hq; cases hq
  have hdr : (List.range H.k).drop c = c :: (List.range H.k).drop (c + 1) := by
    rw [List.drop_eq_getElem_cons (by simpa using hck)]; simp
  rw [hdr] at hq
  cases hq
  have hr : Run1 H s 0 st st := ⟨fun _ _ => rfl, hz s (Nat.le_refl s) hck, by simp, hw, fun _ _ => rfl, fun u hu => absurd hu (Nat.not_lt_zero u)⟩
  have hlen : (H.seq s).length ≤ H.n := Nat.le_trans (le_sumL (fun s => (H.seq s).length) hck) hH.total
  obtain ⟨hR, hnil⟩ := adv_all hS hsrc hck (H.n + 1) 0 st false hr (Nat.zero_le _) (by omega)
  rw [hnil, List.append_nil]
  refine ⟨s + 1, hck, rfl, fun x hx => ?_, fun x hx hxk => ?_, ?_, hR.wait, fun x hx u hu => ?_⟩
  · by_cases e : x = s
    · subst e; exact hR.nexts
    · rw [hR.next x e]; exact hd x (by omega)
  · rw [hR.next x (by omega)]; exact hz x (by omega) hxk
  · rw [hR.ord, List.take_length, ho, List.range_succ, List.flatMap_append]; simp
  · by_cases e : x = s
    · subst e; exact hR.high u hu
    · have hne : (H.seq x).getD u 0 ∉ H.seq s := fun hm => by
        have e1 := hS.sess s hck _ hm
        have e2 := hS.sess x (by omega) _ (getD_mem' hu)
        omega
      rw [hR.out _ hne]; exact hh x (by omega) u hu
end Go.Proofs.Qxb6001561a
