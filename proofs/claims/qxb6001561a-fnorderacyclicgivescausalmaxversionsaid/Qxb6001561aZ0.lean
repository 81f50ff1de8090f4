import Derived.Test.Qxb6001561aQ2
namespace Go.Proofs.Qxb6001561a
set_option linter.unusedVariables false
set_option linter.unusedSimpArgs false
open Go.RowKit Go.Maps

/-- What stands when ZZOrder is called. -/
structure Laid (w : World) (H : Hist) (bops bseqs bsess bplace bsi : Nat) (sv : Nat → Value) (A : Nat → Option Addr) (C : Nat → Nat) : Prop where
  ops : ∀ j, j < H.n → w.cell? ⟨bops, j * 10 + 2, none⟩ = some (kindV (H.put j)) ∧ w.cell? ⟨bops, j * 10 + 4, none⟩ = some (.int .u64 (H.ver j))
  seqs : ∀ q, q < H.k → w.cell? ⟨bseqs, q, none⟩ = some (sv q)
  seq : ∀ q, q < H.k → SlAt w (sv q) (H.seq q).length (fun t => .int .i64 ((H.seq q).getD t 0 : Nat))
  sess : ∀ j, j < H.n → w.cell? ⟨bsess, j, none⟩ = some (.int .i64 (H.sess j : Nat))
  place : ∀ j, j < H.n → w.cell? ⟨bplace, j, none⟩ = some (.int .i64 (H.place j : Nat))
  srcs : ∀ j, j < H.n → w.cell? ⟨bsi, j, none⟩ = some (.slice (A j) (H.src j).length (C j))
  src : ∀ j, j < H.n → SlAt w (.slice (A j) (H.src j).length (C j)) (H.src j).length (fun t => .int .i64 ((H.src j).getD t 0 : Nat))

def vpV (l : List Nat) : List Value := l.flatMap (fun p : Nat => [.int .u64 0, .int .i64 0, .int .i64 (p : Int)])
theorem vpV_length (l : List Nat) : (vpV l).length = l.length * 3 := by
  induction l with
  | nil => rfl
  | cons x l ih => simp only [vpV, List.flatMap_cons, List.length_append] at ih ⊢; simp [ih]; omega
theorem vpV_snoc (l : List Nat) (p : Nat) : vpV (l ++ [p]) = vpV l ++ [.int .u64 0, .int .i64 0, .int .i64 (p : Int)] := by
  simp [vpV]
theorem vpV_get : ∀ (l : List Nat) (t : Nat), t < l.length → (vpV l)[t * 3]? = some (.int .u64 0) ∧ (vpV l)[t * 3 + 1]? = some (.int .i64 0) ∧ (vpV l)[t * 3 + 2]? = some (.int .i64 (l.getD t 0 : Nat))
  | [], t, h => absurd h (Nat.not_lt_zero t)
  | x :: l, 0, _ => by simp [vpV]
  | x :: l, t + 1, h => by
    have ih := vpV_get l t (by simpa using h)
    have e : vpV (x :: l) = .int .u64 0 :: .int .i64 0 :: .int .i64 (x : Int) :: vpV l := rfl
    have e1 : (t + 1) * 3 = t * 3 + 3 := by omega
    rw [e, e1]
    exact ih

theorem VpAt.of_owns {w : World} {base : Nat} {v : Value} {l : List Nat} (h : w.ownsRow base 49 3 v l.length (vpV l)) : VpAt w v l := by
  rcases h.2 with ⟨hv, h0⟩ | ⟨g, cap, cur, rfl, hb, hg, hn, _, hcs, ht⟩
  · refine ⟨none, 0, by rw [hv, h0], fun hp => by omega⟩
  · refine ⟨_, _, rfl, fun _ => ⟨g, rfl, fun t hlt => ?_⟩⟩
    have hc : ∀ j, j < l.length * 3 → w.cell? ⟨g, j, none⟩ = (vpV l)[j]? := fun j hj => h.cellAt j hj
    obtain ⟨a1, a2, a3⟩ := vpV_get l t hlt
    rw [hc _ (by omega), hc _ (by omega), hc _ (by omega)]
    exact ⟨a1, a2, a3⟩

/-- the table of sources as ZZOrder lays it: block B; row j holds the first cur j of its elements -/
structure TI (w : World) (B n : Nat) (src : Nat → List Nat) (cur : Nat → Nat) (tv : Nat → Value) (wr : World) : Prop where
  bel : Below B w wr
  size : B + 1 ≤ wr.heap.size
  row : wr.rowIs B 47 n tv
  rows : ∀ j, j < n → wr.ownsRow (B + 1) 49 3 (tv j) ((src j).take (cur j)).length (vpV ((src j).take (cur j)))
  apart : ∀ p q, p < n → q < n → p ≠ q → (tv p).ownBlock = none ∨ (tv p).ownBlock ≠ (tv q).ownBlock

section
variable {w wr : World} {B n : Nat} {src : Nat → List Nat} {cur : Nat → Nat} {tv : Nat → Value}
theorem TI.congr (h : TI w B n src cur tv wr) {cur' : Nat → Nat} (e : ∀ j, j < n → (src j).take (cur' j) = (src j).take (cur j)) : TI w B n src cur' tv wr :=
  ⟨h.bel, h.size, h.row, fun j hj => by rw [e j hj]; exact h.rows j hj, h.apart⟩

theorem TI.cellB (h : TI w B n src cur tv wr) {i : Nat} (hi : i < n) {w1 : World} (hg : wr.grownBy w1 (tv i).ownBlock) : w1.cell? ⟨B, i, none⟩ = some (tv i) ∧ w1.frozen? ⟨B, i, none⟩ = false := by
  have hb : w1.heap[B]? = wr.heap[B]? := hg.block B h.row.lt (fun e => by have := ((h.rows i hi).lt B e.symm).1; omega)
  have hr := h.row.of_block hb
  exact ⟨hr.cell hi, hr.frozen i⟩

theorem TI.app (h : TI w B n src cur tv wr) {i : Nat} (hi : i < n) (hc : cur i < (src i).length) {w1 : World} {g cap : Nat} (hgrow : wr.grownBy w1 (tv i).ownBlock)
    (hown : w1.ownsRow (B + 1) 49 3 (.slice (some ⟨g, 0, none⟩) (((src i).take (cur i)).length + 1) cap) (((src i).take (cur i)).length + 1) (vpV ((src i).take (cur i)) ++ [.int .u64 0, .int .i64 0, .int .i64 ((src i).getD (cur i) 0 : Nat)]))
    (hat : (tv i).ownBlock = some g ∨ wr.heap.size ≤ g) :
    TI w B n src (upd cur i (cur i + 1)) (upd tv i (.slice (some ⟨g, 0, none⟩) (((src i).take (cur i)).length + 1) cap)) (w1.setCell ⟨B, i, none⟩ (.slice (some ⟨g, 0, none⟩) (((src i).take (cur i)).length + 1) cap)) := by
  have hz := h.size
  generalize hv : Value.slice (some ⟨g, 0, none⟩) (((src i).take (cur i)).length + 1) cap = v at *
  have hvb : v.ownBlock = some g := by rw [← hv]; rfl
  have htk : (src i).take (cur i + 1) = (src i).take (cur i) ++ [(src i).getD (cur i) 0] := by
    rw [List.take_succ_eq_append_getElem hc, List.getD_eq_getElem?_getD, List.getElem?_eq_getElem hc]; rfl
  have hb1 : w1.heap[B]? = wr.heap[B]? := hgrow.block B h.row.lt (fun e => by have := ((h.rows i hi).lt B e.symm).1; omega)
  have hset := grownBy_setCell w1 ⟨B, i, none⟩ v
  have hbel1 : Below B w w1 := h.bel.grown hgrow (by omega) (fun j hj => by have := ((h.rows i hi).lt j hj).1; omega)
  have neB : ∀ {u : Value} {j : Nat} {xs : List Value} {W : World}, W.ownsRow (B + 1) 49 3 u j xs → u.ownBlock = none ∨ u.ownBlock ≠ some B := by
    intro u j xs W hu
    cases hq' : u.ownBlock with
    | none => exact .inl rfl
    | some g => refine .inr (fun e => ?_); have := (hu.lt g hq').1; cases e; omega
  have old_new : ∀ q, q < n → q ≠ i → ∀ g', (tv q).ownBlock = some g' → g' ≠ g := by
    intro q hq hne g' hq' e
    subst e
    rcases hat with hat | hat
    · rcases h.apart q i hq hi hne with h5 | h5
      · rw [h5] at hq'; cases hq'
      · exact h5 (hq'.trans hat.symm)
    · have := ((h.rows q hq).lt g' hq').2; omega
  refine ⟨hbel1.setCell (Nat.le_refl B) _, by have := hset.size; have := hgrow.size; omega, ((h.row.of_block hb1).set i v).congr (fun j _ => by simp only [upd]), fun j hj => ?_, fun p q hp hq hpq => ?_⟩
  · by_cases e : j = i
    · subst e
      simp only [upd_same]
      rw [htk, vpV_snoc]
      have := hown.kept hset (neB hown)
      simpa using this
    · simp only [upd_other _ _ e]
      have k1 := (h.rows j hj).kept hgrow (h.apart j i hj hi e)
      exact k1.kept hset (neB k1)
  · by_cases e : p = i
    · subst e
      have hqp : q ≠ p := fun e2 => hpq e2.symm
      simp only [upd_same, upd_other _ _ hqp, hvb]
      exact .inr (fun e2 => old_new q hq hqp g e2.symm rfl)
    · by_cases e' : q = i
      · subst e'
        simp only [upd_same, upd_other _ _ e, hvb]
        exact ownBlock_ne (old_new p hp e)
      · simp only [upd_other _ _ e, upd_other _ _ e']; exact h.apart p q hp hq hpq
end

theorem Try.info49 : (Try.prog.info? 49).map (fun i => (i.zero, i.size, i.bytes)) = some (some (.agg #[.int .u64 0, .int .i64 0, .int .i64 0]), 3, 24) := by kernel_rfl
theorem Try.info47 : (Try.prog.info? 47).map (fun i => (i.zero, i.size, i.bytes)) = some (some (.slice none 0 0), 1, 24) := by kernel_rfl
end Go.Proofs.Qxb6001561a
