import Derived.Test.Qxb6001561aP1
import Derived.Test.Qxb6001561aB0
namespace Go.Proofs.Qxb6001561a
set_option linter.unusedVariables false
set_option linter.unusedSimpArgs false

theorem mem_seqOf {s : Nat → Nat} {n q i : Nat} : i ∈ seqOf s n q ↔ i < n ∧ s i = q := by
  simp [seqOf, List.mem_filter]
theorem seqOf_nodup (s : Nat → Nat) (n q : Nat) : (seqOf s n q).Nodup := List.Pairwise.filter _ List.nodup_range
theorem seqOf_prefix (s : Nat → Nat) (q i : Nat) : ∀ n, i ≤ n → ∃ r, seqOf s n q = seqOf s i q ++ r
  | 0, h => ⟨[], by have : i = 0 := by omega
                    subst this; simp⟩
  | n + 1, h => by
    by_cases e : i = n + 1
    · exact ⟨[], by subst e; simp⟩
    · obtain ⟨r, hr⟩ := seqOf_prefix s q i n (by omega)
      by_cases e2 : q = s n
      · subst e2; exact ⟨r ++ [n], by rw [seqOf_succ_same, hr, List.append_assoc]⟩
      · exact ⟨r, by rw [seqOf_succ_other _ _ _ e2, hr]⟩
/-- where operation i stands in its session -/
theorem seqOf_at {s : Nat → Nat} {n i : Nat} (hi : i < n) : (seqOf s i (s i)).length < (seqOf s n (s i)).length ∧ (seqOf s n (s i)).getD (seqOf s i (s i)).length 0 = i ∧ (seqOf s n (s i)).take ((seqOf s i (s i)).length + 1) = seqOf s (i + 1) (s i) := by
  obtain ⟨r, hr⟩ := seqOf_prefix s (s i) (i + 1) n hi
  rw [seqOf_succ_same] at hr
  have hl : (seqOf s n (s i)).length = (seqOf s i (s i)).length + 1 + r.length := by rw [hr]; simp; omega
  refine ⟨by omega, ?_, ?_⟩
  · rw [hr, List.getD_eq_getElem?_getD, List.append_assoc, List.getElem?_append_right (Nat.le_refl _)]; simp
  · rw [hr, seqOf_succ_same]
    exact List.take_left' (by simp)
theorem seqOf_place {s : Nat → Nat} {n q t : Nat} (ht : t < (seqOf s n q).length) : placeOf s ((seqOf s n q).getD t 0) = t + 1 := by
  obtain ⟨hi, hq⟩ := mem_seqOf.1 (getD_mem' ht)
  have hat := seqOf_at (s := s) hi
  rw [hq] at hat
  have e := getD_inj (seqOf_nodup s n q) hat.1 ht hat.2.1
  unfold placeOf
  rw [seqOf_succ_same, List.length_append, hq, e]; rfl
theorem seqOf_total (s : Nat → Nat) (k : Nat) : ∀ n, (∀ j, j < n → s j < k) → sumL (fun q => (seqOf s n q).length) k = n
  | 0, _ => by
    have h3 : ∀ n, sumL (fun _ => 0) n = 0 := by
      intro n; induction n with
      | zero => rfl
      | succ n ih => simp [sumL, ih]
    exact h3 k
  | n + 1, h => by
    have ih := seqOf_total s k n (fun j hj => h j (by omega))
    have hu := sumL_upd (L := fun q => (seqOf s n q).length) (L' := fun q => (seqOf s (n + 1) q).length) (a := s n) k (h n (by omega)) (fun j _ hne => by rw [seqOf_succ_other _ _ _ hne])
    rw [seqOf_succ_same, List.length_append, List.length_singleton] at hu
    omega

def Hof (n n1 n2 : Nat) (s : Nat → Nat) (p : Nat → Bool) (ve : Nat → Int) (src : Nat → List Nat) : Hist :=
  { n := n, k := kOf s n, seq := seqOf s n, sess := s, place := placeOf s, put := fun j => decide (j < n1 ∧ p j = true), ver := verOf n2 ve, src := src }

theorem placeOf_le {s : Nat → Nat} {n i : Nat} (hi : i < n) : placeOf s i ≤ (seqOf s n (s i)).length := by
  have := (seqOf_at (s := s) hi).1
  unfold placeOf
  rw [seqOf_succ_same, List.length_append, List.length_singleton]; omega

theorem Hof.ok {n n1 n2 : Nat} {s : Nat → Nat} {p : Nat → Bool} {ve : Nat → Int} {src : Nat → List Nat} (hn : n ≤ 1048576) (hs : ∀ j, j < n → s j < n) (hv : ∀ j, j < n2 → 0 ≤ ve j ∧ ve j ≤ 18446744073709551615)
    (h1 : ∀ i, i < n → ∀ x, x ∈ src i → x < n) (h2 : ∀ i, i < n → (src i).length ≤ 1048576) : HistOK (Hof n n1 n2 s p ve src) where
  n20 := hn
  kn := kOf_le s n hs n (Nat.le_refl n)
  seqLt := fun q _ i hi => (mem_seqOf.1 hi).1
  srcLt := h1
  srcLen := h2
  sessLt := fun i hi => lt_kOf s n i hi
  placeLe := fun i hi => placeOf_le hi
  total := Nat.le_of_eq (seqOf_total s (kOf s n) n (fun j hj => lt_kOf s n j hj))
  verOk := fun i => by
    show 0 ≤ verOf n2 ve i ∧ verOf n2 ve i ≤ 18446744073709551615
    unfold verOf; split
    · exact hv i (by assumption)
    · omega

theorem Hof.seqOK {n n1 n2 : Nat} {s : Nat → Nat} {p : Nat → Bool} {ve : Nat → Int} {src : Nat → List Nat} : SeqOK (Hof n n1 n2 s p ve src) where
  sess := fun q _ i hi => (mem_seqOf.1 hi).2
  place := fun q _ t ht => seqOf_place ht
  nodup := fun q _ => seqOf_nodup s n q
end Go.Proofs.Qxb6001561a
