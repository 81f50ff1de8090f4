/-
  zzClosureMax_hb1's sweeps, with no Go in sight.
-/
import Derived.Test.Qxb6001561aP2
import Derived.Test.Qxb6001561aP4
namespace Go.Proofs.Qxb6001561a
set_option linter.unusedVariables false
set_option linter.unusedSimpArgs false

def foldM (m : Nat → Int) (h : Int) (l : List Nat) : Int := l.foldl (fun h p => max h (m p)) h
theorem foldM_max (m : Nat → Int) : ∀ (l : List Nat) (a b : Int), foldM m (max a b) l = max a (foldM m b l)
  | [], _, _ => rfl
  | p :: l, a, b => by
    show foldM m (max (max a b) (m p)) l = max a (foldM m (max b (m p)) l)
    rw [← foldM_max m l a (max b (m p))]
    congr 1; omega
theorem foldM_ge (m : Nat → Int) : ∀ (l : List Nat) (h : Int), h ≤ foldM m h l
  | [], h => Int.le_refl h
  | p :: l, h => by
    have := foldM_ge m l (max h (m p))
    show h ≤ foldM m (max h (m p)) l
    omega
theorem foldM_mem (m : Nat → Int) : ∀ (l : List Nat) (h : Int) (p : Nat), p ∈ l → m p ≤ foldM m h l
  | x :: l, h, p, hp => by
    show m p ≤ foldM m (max h (m x)) l
    rcases List.mem_cons.1 hp with rfl | hp
    · have := foldM_ge m l (max h (m p)); omega
    · exact foldM_mem m l _ p hp
theorem foldM_le (m : Nat → Int) : ∀ (l : List Nat) (h c : Int), h ≤ c → (∀ p, p ∈ l → m p ≤ c) → foldM m h l ≤ c
  | [], h, c, hc, _ => hc
  | x :: l, h, c, hc, hp => by
    have h1 := hp x (by simp)
    have h2 : max h (m x) ≤ c := by omega
    exact foldM_le m l _ c h2 (fun p hpm => hp p (by simp [hpm]))
theorem foldM_congr {m m' : Nat → Int} (l : List Nat) (h : Int) (e : ∀ p, p ∈ l → m p = m' p) : foldM m h l = foldM m' h l := foldl_max_congr l h e
theorem foldM_snoc (m : Nat → Int) (h : Int) (l : List Nat) (p : Nat) : foldM m h (l ++ [p]) = max (foldM m h l) (m p) := by
  unfold foldM; rw [List.foldl_append]; rfl

def ownV (H : Hist) (i : Nat) : Int := if H.put i then H.ver i else 0
def start1 (pv : Nat → Int) (m : Nat → Int) (i : Nat) : Int := if 0 ≤ pv i then max (m i) (m (pv i).toNat) else m i
def swp (H : Hist) (pv : Nat → Int) (m : Nat → Int) (i : Nat) : Int := foldM m (start1 pv m i) (H.src i)

structure PrevOK (H : Hist) (pv : Nat → Int) : Prop where
  some : ∀ i, i < H.n → 1 < H.place i → pv i = ((H.seq (H.sess i)).getD (H.place i - 2) 0 : Nat)
  none : ∀ i, i < H.n → ¬ 1 < H.place i → pv i = -1

/-- where the highest begins -/
def begM (H : Hist) (i : Nat) : Int := if 1 < H.place i then Mx H ((H.seq (H.sess i)).getD (H.place i - 2) 0) else 0

theorem Mx_fold {H : Hist} (hB : Back H) {i : Nat} (hi : i < H.n) : Mx H i = if H.put i then max (foldM (Mx H) (begM H i) (H.src i)) (H.ver i) else foldM (Mx H) (begM H i) (H.src i) := by
  rw [Mx_eq hB hi]; rfl

theorem Mx_nonneg {H : Hist} (hB : Back H) : ∀ (b i : Nat), i < b → i < H.n → 0 ≤ Mx H i
  | 0, i, h, _ => absurd h (Nat.not_lt_zero i)
  | b + 1, i, h, hi => by
    have h0 : 0 ≤ begM H i := by
      unfold begM; split
      · rename_i hp
        have := hB.prev i hi hp
        exact Mx_nonneg hB b _ (by omega) (by omega)
      · omega
    have h1 := foldM_ge (Mx H) (H.src i) (begM H i)
    rw [Mx_fold hB hi]
    split <;> omega
theorem begM_nonneg {H : Hist} (hB : Back H) {i : Nat} (hi : i < H.n) : 0 ≤ begM H i := by
  unfold begM; split
  · rename_i hp
    have := hB.prev i hi hp
    exact Mx_nonneg hB _ _ this (by omega)
  · omega

theorem begM_le {H : Hist} (hB : Back H) {i : Nat} (hi : i < H.n) : begM H i ≤ Mx H i := by
  have := foldM_ge (Mx H) (H.src i) (begM H i)
  rw [Mx_fold hB hi]; split <;> omega
theorem src_le_Mx {H : Hist} (hB : Back H) {i p : Nat} (hi : i < H.n) (hp : p ∈ H.src i) : Mx H p ≤ Mx H i := by
  have := foldM_mem (Mx H) (H.src i) (begM H i) p hp
  rw [Mx_fold hB hi]; split <;> omega

theorem start1_eq {H : Hist} (hB : Back H) {pv m : Nat → Int} (hp : PrevOK H pv) {i : Nat} (hi : i < H.n) (hm : ∀ j, j < i → m j = Mx H j) (h0 : 0 ≤ m i) : start1 pv m i = max (m i) (begM H i) := by
  unfold start1 begM
  by_cases h : 1 < H.place i
  · have := hB.prev i hi h
    rw [hp.some i hi h, if_pos (by omega), if_pos h, Int.toNat_natCast, hm _ this]
  · rw [hp.none i hi h, if_neg (by omega), if_neg h]; omega

/-- the first sweep -/
theorem swp_own {H : Hist} (hB : Back H) (hv : ∀ i, 0 ≤ H.ver i) {pv m : Nat → Int} (hp : PrevOK H pv) {i : Nat} (hi : i < H.n) (hm : ∀ j, j < i → m j = Mx H j) (ho : m i = ownV H i) : swp H pv m i = Mx H i := by
  have h0 : 0 ≤ ownV H i := by unfold ownV; have := hv i; split <;> omega
  unfold swp
  rw [start1_eq hB hp hi hm (by omega), foldM_max, foldM_congr _ _ (fun p hpm => hm p (hB.src i hi p hpm)), ho, Mx_fold hB hi]
  have h1 := foldM_ge (Mx H) (H.src i) (begM H i)
  have h2 := begM_nonneg hB hi
  unfold ownV
  split <;> omega
/-- the second -/
theorem swp_fix {H : Hist} (hB : Back H) {pv m : Nat → Int} (hp : PrevOK H pv) {i : Nat} (hi : i < H.n) (hm : ∀ j, j < i → m j = Mx H j) (ho : m i = Mx H i) : swp H pv m i = Mx H i := by
  unfold swp
  rw [start1_eq hB hp hi hm (by have := Mx_nonneg hB _ i (Nat.lt_succ_self i) hi; omega), foldM_max, foldM_congr _ _ (fun p hpm => hm p (hB.src i hi p hpm)), ho]
  have h1 := foldM_le (Mx H) (H.src i) (begM H i) (Mx H i) (begM_le hB hi) (fun p hpm => src_le_Mx hB hi hpm)
  omega

/-- the last operation of each session ahead of i -/
def lastT (s : Nat → Nat) : Nat → Nat → Int
  | 0 => fun _ => -1
  | i + 1 => upd (lastT s i) (s i) (i : Nat)
def prevOf (s : Nat → Nat) (i : Nat) : Int := lastT s i (s i)

theorem lastT_eq (s : Nat → Nat) : ∀ (i q : Nat), ((seqOf s i q).length = 0 ∧ lastT s i q = -1) ∨ (0 < (seqOf s i q).length ∧ lastT s i q = ((seqOf s i q).getD ((seqOf s i q).length - 1) 0 : Nat))
  | 0, q => .inl ⟨rfl, rfl⟩
  | i + 1, q => by
    by_cases e : q = s i
    · subst e
      refine .inr ?_
      rw [seqOf_succ_same]
      refine ⟨by simp, ?_⟩
      show upd (lastT s i) (s i) (i : Int) (s i) = _
      rw [upd_same]
      simp [List.getD_eq_getElem?_getD]
    · rw [seqOf_succ_other _ _ _ e]
      show _ ∧ upd (lastT s i) (s i) (i : Int) q = _ ∨ _ ∧ upd (lastT s i) (s i) (i : Int) q = _
      rw [upd_other _ _ e]
      exact lastT_eq s i q

theorem lastT_lt (s : Nat → Nat) : ∀ (i q : Nat), -1 ≤ lastT s i q ∧ lastT s i q < i
  | 0, q => by show (-1 : Int) ≤ -1 ∧ (-1 : Int) < 0; omega
  | i + 1, q => by
    show -1 ≤ upd (lastT s i) (s i) (i : Int) q ∧ upd (lastT s i) (s i) (i : Int) q < _
    by_cases e : q = s i
    · subst e; rw [upd_same]; omega
    · rw [upd_other _ _ e]
      have := lastT_lt s i q
      omega

theorem prefix_getD {a b : List Nat} {t : Nat} (h : t < a.length) : (a ++ b).getD t 0 = a.getD t 0 := by
  rw [List.getD_eq_getElem?_getD, List.getD_eq_getElem?_getD, List.getElem?_append_left h]

theorem prevOf_ok {n n1 n2 : Nat} {s : Nat → Nat} {p : Nat → Bool} {ve : Nat → Int} {src : Nat → List Nat} : PrevOK (Hof n n1 n2 s p ve src) (prevOf s) := by
  have hpl : ∀ i, placeOf s i = (seqOf s i (s i)).length + 1 := fun i => by unfold placeOf; rw [seqOf_succ_same, List.length_append]; rfl
  refine ⟨fun i hi hp => ?_, fun i hi hp => ?_⟩
  · have hp' : 1 < placeOf s i := hp
    rw [hpl] at hp'
    rcases lastT_eq s i (s i) with ⟨h1, _⟩ | ⟨h1, h2⟩
    · omega
    · show lastT s i (s i) = ((seqOf s n (s i)).getD (placeOf s i - 2) 0 : Nat)
      obtain ⟨r, hr⟩ := seqOf_prefix s (s i) i n (Nat.le_of_lt hi)
      rw [h2, hpl, hr, prefix_getD (by omega)]
      rfl
  · have hp' : ¬ 1 < placeOf s i := hp
    rw [hpl] at hp'
    rcases lastT_eq s i (s i) with ⟨_, h2⟩ | ⟨h1, _⟩
    · exact h2
    · omega
end Go.Proofs.Qxb6001561a
