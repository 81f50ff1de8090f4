/-
  The plain model of history.order: no Go in sight.
-/
namespace Go.Proofs.Qxb6001561a
set_option linter.unusedVariables false
set_option linter.unusedSimpArgs false

/-- The sum of the first k values of L. -/
def sumL (L : Nat → Nat) : Nat → Nat
  | 0 => 0
  | k + 1 => sumL L k + L k
theorem sumL_mono (L : Nat → Nat) {a b : Nat} (h : a ≤ b) : sumL L a ≤ sumL L b := by
  induction b with
  | zero => have : a = 0 := by omega
            subst this; exact Nat.le_refl _
  | succ b ih =>
    by_cases e : a = b + 1
    · subst e; exact Nat.le_refl _
    · have := ih (by omega); simp only [sumL]; omega
theorem le_sumL (L : Nat → Nat) {a b : Nat} (h : a < b) : L a ≤ sumL L b := by
  have h1 := sumL_mono L (show a + 1 ≤ b by omega)
  simp only [sumL] at h1; omega
theorem sumL_congr {L L' : Nat → Nat} : ∀ (k : Nat), (∀ j, j < k → L j = L' j) → sumL L k = sumL L' k
  | 0, _ => rfl
  | k + 1, h => by simp only [sumL]; rw [sumL_congr k (fun j hj => h j (by omega)), h k (by omega)]
/-- one of the values has turned -/
theorem sumL_upd {L L' : Nat → Nat} {a : Nat} : ∀ (k : Nat), a < k → (∀ j, j < k → j ≠ a → L' j = L j) → sumL L' k + L a = sumL L k + L' a
  | 0, h, _ => absurd h (Nat.not_lt_zero a)
  | k + 1, h, hs => by
    simp only [sumL]
    by_cases e : a = k
    · subst e
      rw [sumL_congr (L := L') (L' := L) a (fun j hj => hs j (by omega) (by omega))]; omega
    · have := sumL_upd k (by omega) (fun j hj hne => hs j (by omega) hne)
      have := hs k (by omega) (fun e' => e e'.symm)
      omega

def upd {α : Type} (f : Nat → α) (a : Nat) (x : α) : Nat → α := fun j => if j = a then x else f j
theorem upd_same {α : Type} (f : Nat → α) (a : Nat) (x : α) : upd f a x a = x := if_pos rfl
theorem upd_other {α : Type} (f : Nat → α) {a j : Nat} (x : α) (h : j ≠ a) : upd f a x j = f j := if_neg h

/-- A history laid out. -/
structure Hist where
  n : Nat
  k : Nat
  seq : Nat → List Nat
  sess : Nat → Nat
  place : Nat → Nat
  put : Nat → Bool
  ver : Nat → Int
  src : Nat → List Nat

/-- The state of the ordering. -/
structure St where
  next : Nat → Nat
  taken : Nat → Bool
  high : Nat → Int
  wait : Nat → List Nat
  ord : List Nat

def St.start : St := { next := fun _ => 0, taken := fun _ => false, high := fun _ => 0, wait := fun _ => [], ord := [] }

def pend (H : Hist) (st : St) (i : Nat) : Option Nat := (H.src i).find? (fun p => !st.taken p)

def high0 (H : Hist) (st : St) (i : Nat) : Int := if 1 < H.place i then st.high ((H.seq (H.sess i)).getD (H.place i - 2) 0) else 0
def highFrom (st : St) (h : Int) (l : List Nat) : Int := l.foldl (fun h p => if st.taken p then max h (st.high p) else h) h
def highOf (H : Hist) (st : St) (i : Nat) : Int :=
  if H.put i then max (highFrom st (high0 H st i) (H.src i)) (H.ver i) else highFrom st (high0 H st i) (H.src i)

def takeSt (H : Hist) (st : St) (i : Nat) : St := { st with high := upd st.high i (highOf H st i), taken := upd st.taken i true, ord := st.ord ++ [i] }
/-- take, then next[s]++, then the waiting ones at i are woken -/
def stepSt (H : Hist) (st : St) (s i : Nat) : St :=
  { takeSt H st i with next := upd st.next s (st.next s + 1), wait := upd st.wait i [] }
def waitSt (st : St) (p s : Nat) : St := { st with wait := upd st.wait p (st.wait p ++ [s]) }

def opAt (H : Hist) (st : St) (s : Nat) : Nat := (H.seq s).getD (st.next s) 0

def adv (H : Hist) : Nat → St → Nat → Bool → St × List Nat
  | 0, st, _, _ => (st, [])
  | fuel + 1, st, s, f =>
    if st.next s < (H.seq s).length then
      if f = false ∧ (pend H st (opAt H st s)).isSome = true then (waitSt st ((pend H st (opAt H st s)).getD 0) s, [])
      else
        ((adv H fuel (stepSt H st s (opAt H st s)) s false).1, st.wait (opAt H st s) ++ (adv H fuel (stepSt H st s (opAt H st s)) s false).2)
    else (st, [])

/-- what is still to be taken -/
def rem (H : Hist) (st : St) : Nat := sumL (fun s => (H.seq s).length - st.next s) H.k
/-- how many entries wait -/
def waits (H : Hist) (st : St) : Nat := sumL (fun p => (st.wait p).length) H.n

/-- The history is laid out well. -/
structure HistOK (H : Hist) : Prop where
  n20 : H.n ≤ 1048576
  kn : H.k ≤ H.n
  seqLt : ∀ s, s < H.k → ∀ i, i ∈ H.seq s → i < H.n
  srcLt : ∀ i, i < H.n → ∀ p, p ∈ H.src i → p < H.n
  srcLen : ∀ i, i < H.n → (H.src i).length ≤ 1048576
  sessLt : ∀ i, i < H.n → H.sess i < H.k
  placeLe : ∀ i, i < H.n → H.place i ≤ (H.seq (H.sess i)).length
  total : sumL (fun s => (H.seq s).length) H.k ≤ H.n
  verOk : ∀ i, 0 ≤ H.ver i ∧ H.ver i ≤ 18446744073709551615

/-- What keeps the run within its bounds. -/
structure WF (H : Hist) (st : St) (queued : Nat) : Prop where
  next : ∀ s, s < H.k → st.next s ≤ (H.seq s).length
  ord : st.ord.length + rem H st ≤ H.n
  room : waits H st + queued + rem H st ≤ H.k + H.n
  waitLt : ∀ p, ∀ x, x ∈ st.wait p → x < H.k
  waitOut : ∀ p, H.n ≤ p → st.wait p = []
  highOk : ∀ i, 0 ≤ st.high i ∧ st.high i ≤ 18446744073709551615

theorem opAt_lt {H : Hist} (hH : HistOK H) {st : St} {s : Nat} (hs : s < H.k) (h : st.next s < (H.seq s).length) : opAt H st s < H.n := by
  refine hH.seqLt s hs _ ?_
  unfold opAt
  rw [List.getD_eq_getElem?_getD, List.getElem?_eq_getElem h]
  exact List.getElem_mem h

theorem rem_step {H : Hist} {st : St} {s i : Nat} (hs : s < H.k) (h : st.next s < (H.seq s).length) : rem H (stepSt H st s i) + 1 = rem H st := by
  have h1 := sumL_upd (L := fun q => (H.seq q).length - st.next q) (L' := fun q => (H.seq q).length - (stepSt H st s i).next q) (a := s) H.k hs
    (fun j _ hne => by simp only [stepSt, upd_other _ _ hne])
  simp only [stepSt, upd_same] at h1
  unfold rem
  simp only [stepSt]
  omega

theorem waits_step {H : Hist} {st : St} {s i : Nat} (hi : i < H.n) : waits H (stepSt H st s i) + (st.wait i).length = waits H st := by
  have h1 := sumL_upd (L := fun p => (st.wait p).length) (L' := fun p => ((stepSt H st s i).wait p).length) (a := i) H.n hi
    (fun j _ hne => by simp only [stepSt, upd_other _ _ hne])
  simp only [stepSt, upd_same, List.length_nil] at h1
  unfold waits
  simp only [stepSt]
  omega

theorem waits_wait {H : Hist} {st : St} {s p : Nat} (hp : p < H.n) : waits H (waitSt st p s) = waits H st + 1 := by
  have h1 := sumL_upd (L := fun q => (st.wait q).length) (L' := fun q => ((waitSt st p s).wait q).length) (a := p) H.n hp
    (fun j _ hne => by simp only [waitSt, upd_other _ _ hne])
  simp only [waitSt, upd_same, List.length_append, List.length_cons, List.length_nil] at h1
  unfold waits
  simp only [waitSt]
  omega

theorem pend_lt {H : Hist} (hH : HistOK H) {st : St} {i p : Nat} (hi : i < H.n) (h : pend H st i = some p) : p < H.n ∧ st.taken p = false := by
  refine ⟨hH.srcLt i hi p (List.mem_of_find?_eq_some h), ?_⟩
  have := List.find?_some h
  simpa using this

theorem highFrom_ok {st : St} (hh : ∀ i, 0 ≤ st.high i ∧ st.high i ≤ 18446744073709551615) : ∀ (l : List Nat) (h : Int), 0 ≤ h ∧ h ≤ 18446744073709551615 → 0 ≤ highFrom st h l ∧ highFrom st h l ≤ 18446744073709551615
  | [], h, hb => hb
  | p :: l, h, hb => by
    have h1 := hh p
    show 0 ≤ highFrom st (if st.taken p then max h (st.high p) else h) l ∧ _
    exact highFrom_ok hh l _ (by split <;> omega)
theorem high0_ok {H : Hist} {st : St} (hh : ∀ i, 0 ≤ st.high i ∧ st.high i ≤ 18446744073709551615) (i : Nat) : 0 ≤ high0 H st i ∧ high0 H st i ≤ 18446744073709551615 := by
  unfold high0; split
  · exact hh _
  · omega
theorem highOf_ok {H : Hist} (hH : HistOK H) {st : St} (hh : ∀ i, 0 ≤ st.high i ∧ st.high i ≤ 18446744073709551615) (i : Nat) : 0 ≤ highOf H st i ∧ highOf H st i ≤ 18446744073709551615 := by
  have h1 := highFrom_ok hh (H.src i) (high0 H st i) (high0_ok hh i)
  have h2 := hH.verOk i
  unfold highOf; split <;> omega

theorem WF.step {H : Hist} (hH : HistOK H) {st : St} {s c : Nat} (h : WF H st c) (hs : s < H.k) (hn : st.next s < (H.seq s).length) :
    WF H (stepSt H st s (opAt H st s)) (c + (st.wait (opAt H st s)).length + 1) := by
  have hi := opAt_lt hH hs hn
  have r1 := rem_step (H := H) (st := st) (s := s) (i := opAt H st s) hs hn
  have r2 := waits_step (H := H) (st := st) (s := s) (i := opAt H st s) hi
  have h1 := h.ord
  have h2 := h.room
  refine ⟨fun q hq => ?_, ?_, by omega, fun p x hx => ?_, fun p hp => ?_, fun j => ?_⟩
  · by_cases e : q = s
    · subst e; simp only [stepSt, upd_same]; omega
    · simp only [stepSt, upd_other _ _ e]; exact h.next q hq
  · have : (stepSt H st s (opAt H st s)).ord = st.ord ++ [opAt H st s] := rfl
    rw [this, List.length_append, List.length_singleton]; omega
  · by_cases e : p = opAt H st s
    · subst e; simp only [stepSt, upd_same] at hx; cases hx
    · simp only [stepSt, upd_other _ _ e] at hx; exact h.waitLt p x hx
  · by_cases e : p = opAt H st s
    · subst e; simp only [stepSt, upd_same]
    · simp only [stepSt, upd_other _ _ e]; exact h.waitOut p hp
  · by_cases e : j = opAt H st s
    · subst e; simp only [stepSt, takeSt, upd_same]; exact highOf_ok hH h.highOk _
    · simp only [stepSt, takeSt, upd_other _ _ e]; exact h.highOk j

theorem WF.wait {H : Hist} (_hH : HistOK H) {st : St} {s p c : Nat} (h : WF H st (c + 1)) (hs : s < H.k) (hp : p < H.n) : WF H (waitSt st p s) c := by
  have r2 := waits_wait (H := H) (st := st) (s := s) hp
  have h2 := h.room
  have h3 : rem H (waitSt st p s) = rem H st := rfl
  refine ⟨h.next, by rw [h3]; exact h.ord, by omega, fun q x hx => ?_, fun q hq => ?_, h.highOk⟩
  · by_cases e : q = p
    · subst e
      simp only [waitSt, upd_same, List.mem_append, List.mem_singleton] at hx
      rcases hx with hx | rfl
      · exact h.waitLt _ x hx
      · exact hs
    · simp only [waitSt, upd_other _ _ e] at hx; exact h.waitLt q x hx
  · have e : q ≠ p := by omega
    simp only [waitSt, upd_other _ _ e]; exact h.waitOut q hq

theorem WF.mono {H : Hist} {st : St} {c c' : Nat} (h : WF H st c) (hc : c' ≤ c) : WF H st c' :=
  ⟨h.next, h.ord, by have := h.room; omega, h.waitLt, h.waitOut, h.highOk⟩

theorem WF.start {H : Hist} (hH : HistOK H) : WF H St.start H.k := by
  have h1 := hH.total
  have h2 : rem H St.start = sumL (fun s => (H.seq s).length) H.k := rfl
  have h3 : ∀ n, sumL (fun _ => 0) n = 0 := by
    intro n; induction n with
    | zero => rfl
    | succ n ih => simp [sumL, ih]
  have h4 : waits H St.start = 0 := h3 H.n
  refine ⟨fun s _ => Nat.zero_le _, ?_, by omega, fun p x hx => (by cases hx), fun p _ => rfl, fun i => ?_⟩
  · show 0 + rem H St.start ≤ H.n
    omega
  · show (0 : Int) ≤ 0 ∧ (0 : Int) ≤ 18446744073709551615
    omega
end Go.Proofs.Qxb6001561a
