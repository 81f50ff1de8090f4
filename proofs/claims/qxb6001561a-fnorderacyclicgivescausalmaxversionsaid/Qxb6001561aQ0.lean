import Derived.Test.Qxb6001561aO4
namespace Go.Proofs.Qxb6001561a
set_option linter.unusedVariables false
set_option linter.unusedSimpArgs false
open Go.RowKit Go.Maps

/-- v is a slice of ints that may be appended to; it holds xs -/
def QAt (w : World) (v : Value) (xs : List Nat) : Prop :=
  (v = .slice none 0 0 ∧ xs = []) ∨ ∃ b off cap, v = .slice (some ⟨b, off, none⟩) xs.length cap ∧ b < w.heap.size ∧ xs.length ≤ cap ∧
    (∀ j, j < cap → (w.cell? ⟨b, off + j, none⟩).isSome = true ∧ w.frozen? ⟨b, off + j, none⟩ = false) ∧ ∀ t, t < xs.length → w.cell? ⟨b, off + t, none⟩ = some (.int .i64 (xs.getD t 0 : Nat))

theorem getD_app_left {xs ys : List Nat} {t : Nat} (h : t < xs.length) : (xs ++ ys).getD t 0 = xs.getD t 0 := by
  rw [List.getD_eq_getElem?_getD, List.getD_eq_getElem?_getD, List.getElem?_append_left h]
theorem getD_app_right {xs ys : List Nat} {t : Nat} (h : xs.length ≤ t) : (xs ++ ys).getD t 0 = ys.getD (t - xs.length) 0 := by
  rw [List.getD_eq_getElem?_getD, List.getD_eq_getElem?_getD, List.getElem?_append_right h]
theorem intsV_getElem? (l : List Nat) (t : Nat) (h : t < l.length) : (intsV l)[t]? = some (.int .i64 (l.getD t 0 : Nat)) := by
  simp [intsV, List.getD_eq_getElem?_getD, List.getElem?_eq_getElem h]

theorem QAt.of_owns {w : World} {base : Nat} {v : Value} {xs : List Nat} (h : w.ownsRow base 3 1 v xs.length (intsV xs)) : QAt w v xs := by
  rcases h.2 with ⟨hv, h0⟩ | ⟨g, cap, cur, rfl, hb, hg, hn, _, hcs, ht⟩
  · exact .inl ⟨hv, List.length_eq_zero_iff.1 h0⟩
  · refine .inr ⟨g, 0, cap, rfl, (Array.getElem?_eq_some_iff.1 hg).1, hn, fun j hj => ?_, fun t hlt => ?_⟩
    · rw [Nat.zero_add, cell_of_row w g j cur 3 (0, 0) hg]
      exact ⟨by simp; omega, frozen_of_row w g j cur 3 hg⟩
    · rw [Nat.zero_add, h.cellAt t (by omega), intsV_getElem? _ _ hlt]

theorem QAt.lt {w : World} {v : Value} {xs : List Nat} (h : QAt w v xs) {b : Nat} (hb : v.ownBlock = some b) : b < w.heap.size := by
  rcases h with ⟨rfl, _⟩ | ⟨b', off, cap, rfl, hlt, _⟩
  · cases hb
  · have : b' = b := by simpa [Value.ownBlock] using hb
    subst this; exact hlt

theorem QAt.keep {S : Nat → Prop} {w w' : World} {v : Value} {xs : List Nat} (h : QAt w v xs) (hk : Keep S w w') (hne : ∀ b, v.ownBlock = some b → ¬ S b) : QAt w' v xs := by
  rcases h with h | ⟨b, off, cap, rfl, hlt, hn, h1, h2⟩
  · exact .inl h
  · have e := hk.block b hlt (hne b rfl)
    refine .inr ⟨b, off, cap, rfl, Nat.lt_of_lt_of_le hlt hk.size, hn, fun j hj => ?_, fun t ht => ?_⟩
    · rw [World.cell?_of_block (w := w) e, World.frozen?_of_block (w := w) e]; exact h1 j hj
    · rw [World.cell?_of_block (w := w) e]; exact h2 t ht

theorem grownBy_setCells (b : Nat) : ∀ (vs : List Value) (o : Nat) (w : World), w.grownBy (w.setCells b o vs) (some b)
  | [], _, w => World.grownBy.refl w _
  | v :: vs, o, w => (grownBy_setCell w ⟨b, o, none⟩ v).trans (grownBy_setCells b vs (o + 1) _)

theorem run_append_q {w : World} {v : Value} {xs : List Nat} (h : QAt w v xs) (ty : TypeId) (a : Addr) (c : Nat) (ys : List Nat) (hnews : ∀ j u, (intsV ys)[j]? = some u → w.cell? (a.add j) = some u) (hpos : 0 < ys.length) (hb : xs.length + ys.length ≤ 4194304) :
    ∃ v' w', (Builtin.append_ #[22, 22] ty #[v, .slice (some a) ys.length c]).run Try.prog w = .ok v' w' ∧ QAt w' v' (xs ++ ys) ∧ w.grownBy w' v.ownBlock ∧ (v'.ownBlock = v.ownBlock ∨ v'.ownBlock = some w.heap.size) := by
  obtain ⟨i, hi, hz0, hz1, hz2⟩ := info_parts Try.info3
  have hlen : (intsV ys).length = ys.length := by simp [intsV]
  have happ : ∀ {w' : World} {v' : Value}, w'.ownsRow w.heap.size 3 1 v' (xs.length + ys.length) (intsV xs ++ intsV ys) → QAt w' v' (xs ++ ys) := by
    intro w' v' ho
    refine QAt.of_owns (base := w.heap.size) ?_
    simpa [intsV] using ho
  have hloc : ∀ {w' : World} {v' : Value}, w'.ownsRow w.heap.size 3 1 v' (xs.length + ys.length) (intsV xs ++ intsV ys) → w.grownBy w' none → w'.heap.size ≤ w.heap.size + 1 → v'.ownBlock = some w.heap.size := by
    intro w' v' ho _ hs
    obtain ⟨g, cap, rfl, hg1, hg2⟩ := ho.form (by omega)
    have : g = w.heap.size := by omega
    rw [this]; rfl
  rcases h with ⟨rfl, rfl⟩ | ⟨b, off, cap, rfl, hlt, hn, h1, h2⟩
  · obtain ⟨v', w', hr, ho, hg, _, hl⟩ := run_append_own_at (P := Try.prog) w w.heap.size 22 ty 3 i (.int .i64 0) 1 8 Try.underlying22 hi hz0 hz1 hz2 rfl (by decide) (.slice none 0 0) 0 [] (World.ownsRow_nil w _ 3 1) a ys.length c (intsV ys) (by simp [hlen]) hnews (intsV_oneCell ys) (by unfold maxLen; simp at hb; omega) (by simp at hb; omega) (Nat.le_refl _)
    refine ⟨v', w', hr, QAt.of_owns (base := w.heap.size) (by simpa using ho), hg, hl⟩
  · by_cases hroom : xs.length + ys.length ≤ cap
    · have hr := run_append_room_cells (P := Try.prog) w 22 ty 3 i Try.underlying22 hi b off xs.length cap a ys.length c (intsV ys) (by rw [hz1]; simp [hlen]) hnews (intsV_oneCell ys) hroom
        (fun j hj => by rw [hz1, Nat.mul_one, Nat.add_assoc]; exact (h1 _ (by omega)).1) (fun j hj => by rw [hz1, Nat.mul_one, Nat.add_assoc]; exact (h1 _ (by omega)).2)
      rw [hz1, Nat.mul_one] at hr
      have hin := World.cell?_setCells_in b (intsV ys) (off + xs.length) w (fun j hj => by rw [Nat.add_assoc]; exact (h1 _ (by omega)).1)
      refine ⟨_, _, hr, .inr ⟨b, off, cap, by simp, by have := (grownBy_setCells b (intsV ys) (off + xs.length) w).size; omega, by simpa using hroom, fun j hj => ?_, fun t ht => ?_⟩, grownBy_setCells b _ _ w, .inl rfl⟩
      · rw [World.frozen?_setCells]
        refine ⟨?_, (h1 j hj).2⟩
        by_cases hjj : off + xs.length ≤ off + j ∧ off + j < off + xs.length + (intsV ys).length
        · have := hin (j - xs.length) (by omega)
          rw [show off + xs.length + (j - xs.length) = off + j by omega] at this
          rw [this]; rfl
        · rw [World.cell?_setCells_out b (intsV ys) (off + xs.length) w ⟨b, off + j, none⟩ (fun _ _ => by simp only; omega)]
          exact (h1 j hj).1
      · simp only [List.length_append] at ht
        by_cases htx : t < xs.length
        · rw [World.cell?_setCells_out b (intsV ys) (off + xs.length) w ⟨b, off + t, none⟩ (fun _ _ => by simp only; omega), h2 t htx]
          rw [getD_app_left htx]
        · have := hin (t - xs.length) (by omega)
          rw [show off + xs.length + (t - xs.length) = off + t by omega] at this
          rw [this]
          have e := intsV_getElem? ys (t - xs.length) (by omega)
          rw [List.getElem?_eq_getElem (by omega)] at e
          rw [Option.some.inj e, getD_app_right (by omega)]
    · have holds : ∀ j u, (intsV xs)[j]? = some u → w.cell? ((⟨b, off, none⟩ : Addr).add j) = some u := by
        intro j u hu
        have hj : j < xs.length := by have := (List.getElem?_eq_some_iff.1 hu).1; simpa [intsV] using this
        rw [intsV_getElem? xs j hj] at hu
        rw [Addr.add_lit, h2 j hj, ← hu]
      have hr := run_append_grow (P := Try.prog) w 22 ty 3 i (.int .i64 0) Try.underlying22 hi hz0 ⟨b, off, none⟩ xs.length cap (intsV xs) (by rw [hz1]; simp [intsV]) holds a ys.length c (intsV ys) (by rw [hz1]; simp [hlen]) hnews (by omega) (by omega) (growslice_fits (by omega) (by rw [hz2]; omega))
      obtain ⟨v', w', hr2, ho, hg⟩ := run_append_arg_grows (P := Try.prog) w 22 ty 3 i (.int .i64 0) 1 8 Try.underlying22 hi hz0 hz1 hz2 rfl (by decide) ⟨b, off, none⟩ xs.length cap (intsV xs) (by simp [intsV]) holds a ys.length c (intsV ys) (by simp [hlen]) hnews (by omega) (by unfold maxLen; omega) (by omega)
      have hew : (Result.ok v' w' : Result Value) = _ := hr2.symm.trans hr
      have hsz : w'.heap.size ≤ w.heap.size + 1 := by
        simp only [Result.ok.injEq] at hew
        rw [hew.2]; simp
      refine ⟨v', w', hr2, happ ho, ⟨hg.os, hg.tape, hg.output, hg.size, fun k hk _ => hg.block k hk (by simp)⟩, .inr (hloc ho hg hsz)⟩
end Go.Proofs.Qxb6001561a
