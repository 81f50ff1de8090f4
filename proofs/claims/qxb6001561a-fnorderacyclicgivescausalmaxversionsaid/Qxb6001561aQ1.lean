import Derived.Test.Qxb6001561aQ0
namespace Go.Proofs.Qxb6001561a
set_option linter.unusedVariables false
set_option linter.unusedSimpArgs false
open Go.RowKit Go.Maps

theorem adv_rem {H : Hist} {s : Nat} (hs : s < H.k) : ∀ (fuel : Nat) (st : St) (f : Bool), ((adv H fuel st s f).2 = [] ∧ rem H (adv H fuel st s f).1 = rem H st) ∨ rem H (adv H fuel st s f).1 < rem H st
  | 0, _, _ => .inl ⟨rfl, rfl⟩
  | fuel + 1, st, f => by
    by_cases hlt : st.next s < (H.seq s).length
    · by_cases hf : f = false ∧ (pend H st (opAt H st s)).isSome = true
      · refine .inl ⟨?_, ?_⟩ <;> simp only [adv, if_pos hlt, if_pos hf]
        rfl
      · simp only [adv, if_pos hlt, if_neg hf]
        have h1 := rem_step (H := H) (st := st) (s := s) (i := opAt H st s) hs hlt
        rcases adv_rem hs fuel (stepSt H st s (opAt H st s)) false with ⟨_, h2⟩ | h2
        · right; omega
        · right; omega
    · rw [adv_done hlt]; exact .inl ⟨rfl, rfl⟩
theorem adv_forced {H : Hist} {st : St} {s : Nat} (hs : s < H.k) (hlt : st.next s < (H.seq s).length) (fuel : Nat) : rem H (adv H (fuel + 1) st s true).1 < rem H st := by
  rw [adv_step hlt (.inl rfl)]
  have h1 := rem_step (H := H) (st := st) (s := s) (i := opAt H st s) hs hlt
  rcases adv_rem hs fuel (stepSt H st s (opAt H st s)) false with ⟨_, h2⟩ | h2 <;> (simp only; omega)
theorem adv_lt {H : Hist} {s : Nat} (hs : s < H.k) : ∀ (fuel : Nat) (st : St) (f : Bool), (∀ p x, x ∈ st.wait p → x < H.k) → ∀ x, x ∈ (adv H fuel st s f).2 → x < H.k
  | 0, _, _, _, x, hx => by cases hx
  | fuel + 1, st, f, hw, x, hx => by
    by_cases hlt : st.next s < (H.seq s).length
    · by_cases hf : f = false ∧ (pend H st (opAt H st s)).isSome = true
      · simp only [adv, if_pos hlt, if_pos hf] at hx
        cases hx
      · simp only [adv, if_pos hlt, if_neg hf, List.mem_append] at hx
        rcases hx with hx | hx
        · exact hw _ x hx
        · refine adv_lt hs fuel (stepSt H st s (opAt H st s)) false (fun p y hy => ?_) x hx
          by_cases e : p = opAt H st s
          · subst e; simp only [stepSt, upd_same] at hy; cases hy
          · simp only [stepSt, upd_other _ _ e] at hy; exact hw p y hy
    · rw [adv_done hlt] at hx; cases hx

theorem run_append_q0 {w : World} {v : Value} {xs : List Nat} (h : QAt w v xs) (ty : TypeId) (ao : Option Addr) (c : Nat) :
    (Builtin.append_ #[22, 22] ty #[v, .slice ao 0 c]).run Try.prog w = .ok v w := by
  obtain ⟨i, hi, hz0, hz1, hz2⟩ := info_parts Try.info3
  rcases h with ⟨rfl, rfl⟩ | ⟨b, off, cap, rfl, hlt, hn, h1, h2⟩
  · cases ao <;> simp [Builtin.append_, run_underlying Try.underlying22, sizeOf, typeInfo, hi, Builtin.lenOf, Builtin.firstCells, loadCells, loadCellsFrom]
  · cases ao <;> simp [Builtin.append_, run_underlying Try.underlying22, sizeOf, typeInfo, hi, Builtin.lenOf, Builtin.firstCells, hn, storeCells, loadCells, loadCellsFrom]

theorem wpList_append_q (w : World) {ops : Array Oper} {rest : List Oper} {o : Oper} {a : Act} {Q : Exit → Act → World → Prop}
    (hg : o.guard = none) (s x : Operand) (hop : o.op = Op.call { callee := Callee.builtin Builtin.append, args := #[s, x], argTypes := #[22, 22] })
    (v vx : Value) (xs ys : List Nat) (base : Nat) (hs : a.eval s = v) (hx : a.eval x = vx) (hq : QAt w v xs) (hy : w.ownsRow base 3 1 vx ys.length (intsV ys)) (hb : xs.length + ys.length ≤ 4194304)
    (hK : ∀ v' w', QAt w' v' (xs ++ ys) → w.grownBy w' v.ownBlock → (v'.ownBlock = v.ownBlock ∨ v'.ownBlock = some w.heap.size) → wpList Try.prog ops Q rest (a.put o.dst v') w') : wpList Try.prog ops Q (o :: rest) a w := by
  refine wpList_plain hg fun K hK' => ?_
  by_cases h0 : ys.length = 0
  · have hnil : ys = [] := List.length_eq_zero_iff.1 h0
    obtain ⟨ao, c, hvx⟩ : ∃ ao c, vx = .slice ao 0 c := by
      rcases hy.2 with ⟨hv, _⟩ | ⟨g, cp, cur, hv, _⟩
      · exact ⟨_, _, hv⟩
      · rw [h0] at hv; exact ⟨_, _, hv⟩
    have hrun := run_append_q0 hq o.type ao c
    rw [← hvx] at hrun
    unfold Oper.wp
    simp [execOp, hop, resolve, invoke, builtin, hs, hx, hrun, Result.andThen]
    exact hK' _ _ (hK v w (by rw [hnil, List.append_nil]; exact hq) (World.grownBy.refl _ _) (.inl rfl))
  · obtain ⟨g, cp, rfl, _, _⟩ := hy.form (by omega)
    obtain ⟨v', w', hrun, h1, h2, h3⟩ := run_append_q hq o.type ⟨g, 0, none⟩ cp ys (hy.cells rfl) (by omega) hb
    unfold Oper.wp
    simp [execOp, hop, resolve, invoke, builtin, hs, hx, hrun, Result.andThen]
    exact hK' _ _ (hK v' w' h1 h2 h3)

/-- queue[1:] -/
theorem QAt.tail {w : World} {b off cap : Nat} {x : Nat} {q : List Nat} (h : QAt w (.slice (some ⟨b, off, none⟩) (x :: q).length cap) (x :: q)) :
    (∀ ao, (cap = 1 → ao = some ⟨b, off, none⟩) → (¬ cap = 1 → ao = some ⟨b, off + 1, none⟩) → QAt w (.slice ao q.length (cap - 1)) q) ∧ w.cell? ⟨b, off, none⟩ = some (.int .i64 (x : Nat)) ∧ q.length + 1 ≤ cap := by
  rcases h with ⟨h, _⟩ | ⟨b', off', cap', he, hlt, hn, h1, h2⟩
  · cases h
  · simp only [Value.slice.injEq, Option.some.injEq, Addr.mk.injEq, and_true, true_and] at he
    obtain ⟨⟨rfl, rfl⟩, rfl⟩ := he
    simp only [List.length_cons] at hn h2
    refine ⟨fun ao a1 a2 => ?_, ?_, hn⟩
    · by_cases hc : cap = 1
      · have hq : q = [] := List.length_eq_zero_iff.1 (by omega)
        rw [a1 hc, hc]
        exact .inr ⟨b, off, 0, rfl, hlt, by omega, fun j hj => absurd hj (Nat.not_lt_zero j), fun t ht => by omega⟩
      · rw [a2 hc]
        refine .inr ⟨b, off + 1, cap - 1, rfl, hlt, by omega, fun j hj => ?_, fun t ht => ?_⟩
        · have := h1 (j + 1) (by omega)
          rw [show off + (j + 1) = off + 1 + j by omega] at this
          exact this
        · have := h2 (t + 1) (by omega)
          rw [show off + (t + 1) = off + 1 + t by omega] at this
          rw [this]; rfl
    · have := h2 0 (by omega)
      simpa using this
end Go.Proofs.Qxb6001561a
