import Derived.Test.Qxb6600184aRows
namespace Go.Proofs.Qxb6600184a
set_option linter.unusedVariables false
set_option linter.unusedSimpArgs false

instance lawful_bytes : LawfulBEq ByteArray where
  eq_of_beq {a b} h := by
    cases a; cases b
    exact congrArg ByteArray.mk (eq_of_beq (α := Array UInt8) h)
  rfl {a} := by
    cases a
    exact beq_self_eq_true (α := Array UInt8) _

/-- how many of the first t places p holds at -/
def cn (p : Nat → Bool) : Nat → Nat
  | 0 => 0
  | t + 1 => cn p t + if p t = true then 1 else 0

theorem cn_le (p : Nat → Bool) (t : Nat) : cn p t ≤ t := by
  induction t with
  | zero => simp [cn]
  | succ t ih => simp only [cn]; split <;> omega
theorem cn_mono {p : Nat → Bool} {s t : Nat} (h : s ≤ t) : cn p s ≤ cn p t := by
  induction t with
  | zero => have : s = 0 := by omega
            subst this; exact Nat.le_refl _
  | succ t ih =>
    by_cases e : s = t + 1
    · subst e; exact Nat.le_refl _
    · have := ih (by omega); simp only [cn]; omega
theorem cn_lt {p : Nat → Bool} {s t : Nat} (h : s < t) (hp : p s = true) : cn p s < cn p t := by
  have h1 : cn p (s + 1) = cn p s + 1 := by simp [cn, hp]
  have := cn_mono (p := p) (show s + 1 ≤ t by omega)
  omega
theorem cn_congr {p q : Nat → Bool} {t : Nat} (h : ∀ s, s < t → p s = q s) : cn p t = cn q t := by
  induction t with
  | zero => rfl
  | succ t ih => simp only [cn]; rw [ih (fun s hs => h s (by omega)), h t (by omega)]
theorem cn_zero_of {p : Nat → Bool} {t : Nat} (h : ∀ s, s < t → p s = false) : cn p t = 0 := by
  induction t with
  | zero => rfl
  | succ t ih => simp only [cn]; rw [ih (fun s hs => h s (by omega)), h t (by omega)]; rfl

/-- the places of key k -/
def ky (ks : Nat → Int) (k : Nat) : Nat → Bool := fun t => decide (ks t = (k : Int))
/-- where key k's list starts, after t items counted -/
def stt (ks : Nat → Int) (t : Nat) : Nat → Nat
  | 0 => 0
  | k + 1 => stt ks t k + cn (ky ks k) t

theorem stt_mono {ks : Nat → Int} {t k k' : Nat} (h : k ≤ k') : stt ks t k ≤ stt ks t k' := by
  induction k' with
  | zero => have : k = 0 := by omega
            subst this; exact Nat.le_refl _
  | succ k' ih =>
    by_cases e : k = k' + 1
    · subst e; exact Nat.le_refl _
    · have := ih (by omega); simp only [stt]; omega
theorem stt_step (ks : Nat → Int) (t K : Nat) : stt ks (t + 1) K = stt ks t K + if 0 ≤ ks t ∧ ks t < K then 1 else 0 := by
  induction K with
  | zero =>
    simp only [stt]
    rw [if_neg (by omega)]
  | succ K ih =>
    simp only [stt, cn, ky, decide_eq_true_eq]
    rw [ih]
    by_cases e : ks t = (K : Int)
    · rw [if_pos e, if_neg (by omega), if_pos (by omega)]; omega
    · rw [if_neg e]
      by_cases h : 0 ≤ ks t ∧ ks t < K
      · rw [if_pos h, if_pos (by omega)]; omega
      · rw [if_neg h, if_neg (by omega)]; omega
theorem stt_le (ks : Nat → Int) (t K : Nat) : stt ks t K ≤ t := by
  induction t with
  | zero =>
    have : ∀ K, stt ks 0 K = 0 := fun K => by
      induction K with
      | zero => rfl
      | succ K ih => simp [stt, ih, cn]
    rw [this]; exact Nat.le_refl _
  | succ t ih => rw [stt_step]; split <;> omega
/-- where item i of key k goes -/
def pos (ks : Nat → Int) (N : Nat) (i : Nat) : Nat := stt ks N (ks i).toNat + cn (ky ks (ks i).toNat) i
theorem pos_lt {ks : Nat → Int} {N K i : Nat} (hi : i < N) (h0 : 0 ≤ ks i) (hK : ks i < K) : pos ks N i < stt ks N K := by
  have hp : ky ks (ks i).toNat i = true := by simp [ky]; omega
  have h1 := cn_lt hi hp
  have h2 : stt ks N ((ks i).toNat + 1) ≤ stt ks N K := stt_mono (by omega)
  simp only [stt] at h2
  unfold pos; omega
theorem pos_ne {ks : Nat → Int} {N i t : Nat} (hi : i < t) (ht : t < N) (h0 : 0 ≤ ks i) (h1 : 0 ≤ ks t) : pos ks N i ≠ pos ks N t := by
  have hpi : ky ks (ks i).toNat i = true := by simp [ky]; omega
  have hpt : ky ks (ks t).toNat t = true := by simp [ky]; omega
  by_cases e : ks i = ks t
  · have := cn_lt hi hpi
    unfold pos; rw [← e]; omega
  · have a1 := cn_lt (show i < N by omega) hpi
    have a2 := cn_lt ht hpt
    unfold pos
    rcases Nat.lt_or_ge (ks i).toNat (ks t).toNat with h | h
    · have h2 : stt ks N ((ks i).toNat + 1) ≤ stt ks N (ks t).toNat := stt_mono (by omega)
      simp only [stt] at h2; omega
    · have h2 : stt ks N ((ks t).toNat + 1) ≤ stt ks N (ks i).toNat := stt_mono (by omega)
      simp only [stt] at h2; omega

open Classical in
/-- the distinct names among the first i, in the order of the first of each -/
noncomputable def dist (wl : Nat → ByteArray) : Nat → List ByteArray
  | 0 => []
  | i + 1 => if wl i ∈ dist wl i then dist wl i else dist wl i ++ [wl i]

open Classical in
theorem mem_dist {wl : Nat → ByteArray} {i : Nat} {x : ByteArray} : x ∈ dist wl i ↔ ∃ j, j < i ∧ wl j = x := by
  induction i with
  | zero => simp [dist]
  | succ i ih =>
    simp only [dist]
    split
    · rename_i h
      rw [ih]
      constructor
      · rintro ⟨j, hj, e⟩; exact ⟨j, by omega, e⟩
      · rintro ⟨j, hj, e⟩
        by_cases e2 : j = i
        · subst e2; subst e; exact ih.1 h
        · exact ⟨j, by omega, e⟩
    · rw [List.mem_append, ih]
      constructor
      · rintro (⟨j, hj, e⟩ | h)
        · exact ⟨j, by omega, e⟩
        · simp at h; exact ⟨i, by omega, h.symm⟩
      · rintro ⟨j, hj, e⟩
        by_cases e2 : j = i
        · subst e2; right; simp [e]
        · left; exact ⟨j, by omega, e⟩
open Classical in
theorem dist_nodup (wl : Nat → ByteArray) (i : Nat) : (dist wl i).Nodup := by
  induction i with
  | zero => simp [dist]
  | succ i ih =>
    simp only [dist]
    split
    · exact ih
    · rename_i h
      rw [List.nodup_append]
      refine ⟨ih, by simp, ?_⟩
      intro a ha b hb e
      simp at hb; subst hb; subst e; exact h ha
open Classical in
theorem dist_len (wl : Nat → ByteArray) (i : Nat) : (dist wl i).length ≤ i := by
  induction i with
  | zero => simp [dist]
  | succ i ih => simp only [dist]; split
                 · omega
                 · simp; omega

open Classical in
/-- the place of a name, or -1 -/
noncomputable def key (D : List ByteArray) (x : ByteArray) : Int := if x ∈ D then (D.idxOf x : Int) else -1
open Classical in
theorem key_nonneg {D : List ByteArray} {x : ByteArray} : 0 ≤ key D x ↔ x ∈ D := by
  unfold key; split
  · rename_i h; exact ⟨fun _ => h, fun _ => by omega⟩
  · rename_i h; exact ⟨fun e => by omega, fun e => absurd e h⟩
open Classical in
theorem key_lt {D : List ByteArray} {x : ByteArray} : key D x < (D.length : Int) := by
  unfold key; split
  · rename_i h; have := List.idxOf_lt_length_of_mem h; omega
  · omega
open Classical in
theorem key_eq {D : List ByteArray} (hD : D.Nodup) {x y : ByteArray} {k : Nat} (hk : D[k]? = some y) : key D x = (k : Int) ↔ x = y := by
  have hkl := (List.getElem?_eq_some_iff.1 hk).1
  have hy : D[k] = y := (List.getElem?_eq_some_iff.1 hk).2
  unfold key
  constructor
  · split
    · rename_i h
      intro e
      have h1 := List.idxOf_lt_length_of_mem h
      have h2 := List.getElem_idxOf h1
      have : D.idxOf x = k := by omega
      rw [← h2, ← hy]; congr 1
    · intro e; omega
  · intro e; subst e
    rw [if_pos (List.mem_of_getElem? hk)]
    have := hD.idxOf_getElem k hkl
    rw [hy] at this; rw [this]
open Classical in
theorem key_append {D : List ByteArray} {x y : ByteArray} (h : x ∈ D) : key (D ++ [y]) x = key D x := by
  unfold key
  rw [if_pos h, if_pos (by simp [h]), List.idxOf_append, if_pos h]
open Classical in
theorem key_new {D : List ByteArray} {x : ByteArray} (h : x ∉ D) : key (D ++ [x]) x = (D.length : Int) := by
  unfold key
  rw [if_pos (by simp), List.idxOf_append, if_neg h]; simp
open Classical in
theorem key_dist {wl : Nat → ByteArray} {i n : Nat} {x : ByteArray} (h : i ≤ n) (hx : x ∈ dist wl i) : key (dist wl n) x = key (dist wl i) x := by
  induction n with
  | zero => have : i = 0 := by omega
            subst this; rfl
  | succ n ih =>
    by_cases e : i = n + 1
    · subst e; rfl
    · rw [← ih (by omega)]
      simp only [dist]
      split
      · rfl
      · refine key_append ?_
        rw [mem_dist] at hx ⊢
        obtain ⟨j, hj, e⟩ := hx
        exact ⟨j, by omega, e⟩

def sumL (L : Nat → Nat) : Nat → Nat
  | 0 => 0
  | m + 1 => sumL L m + L m
theorem sumL_mono {L : Nat → Nat} {i m : Nat} (h : i ≤ m) : sumL L i ≤ sumL L m := by
  induction m with
  | zero => have : i = 0 := by omega
            subst this; exact Nat.le_refl _
  | succ m ih =>
    by_cases e : i = m + 1
    · subst e; exact Nat.le_refl _
    · have := ih (by omega); simp only [sumL]; omega
/-- rows laid end to end -/
theorem flat {α : Type} (d : α) (L : Nat → Nat) (g : Nat → Nat → α) (m : Nat) : ∃ F : Nat → α, ∀ i j, i < m → j < L i → F (sumL L i + j) = g i j := by
  induction m with
  | zero => exact ⟨fun _ => d, fun i j h => absurd h (Nat.not_lt_zero i)⟩
  | succ m ih =>
    obtain ⟨F, hF⟩ := ih
    refine ⟨fun t => if t < sumL L m then F t else g m (t - sumL L m), fun i j hi hj => ?_⟩
    by_cases e : i = m
    · subst e
      show (if _ then _ else _) = _
      rw [if_neg (by omega)]; congr 1; omega
    · have h1 : sumL L (i + 1) ≤ sumL L m := sumL_mono (by omega)
      simp only [sumL] at h1
      show (if _ then _ else _) = _
      rw [if_pos (by omega)]
      exact hF i j (by omega) hj

end Go.Proofs.Qxb6600184a
