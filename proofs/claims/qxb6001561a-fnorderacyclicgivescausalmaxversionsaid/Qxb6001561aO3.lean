import Derived.Test.Qxb6001561aO2
namespace Go.Proofs.Qxb6001561a
set_option linter.unusedVariables false
set_option linter.unusedSimpArgs false
open Go.RowKit Go.Maps

theorem Keep.ownsRow {S : Nat → Prop} {w w' : World} {base : Nat} {e : TypeId} {size : Nat} {v : Value} {n : Nat} {xs : List Value} (h : Keep S w w') (hown : w.ownsRow base e size v n xs) (hne : ∀ g, v.ownBlock = some g → ¬ S g) : w'.ownsRow base e size v n xs := by
  refine ⟨hown.1, ?_⟩
  rcases hown.2 with hn | ⟨g, cap, cur, rfl, hb, hgg, rest⟩
  · exact .inl hn
  · refine .inr ⟨g, cap, cur, rfl, hb, ?_, rest⟩
    rw [h.block g (Array.getElem?_eq_some_iff.1 hgg).1 (hne g rfl)]
    exact hgg

/-- append of nothing -/
theorem run_append_zero {P : Program} (w : World) (base : Nat) (t ty e : TypeId) (i : TypeInfo) (size : Nat) (ht : P.underlying t = some (.slice e)) (hi : P.info? e = some i)
    (v : Value) (n : Nat) (xs : List Value) (hown : w.ownsRow base e size v n xs) (a : Option Addr) (c : Nat) :
    (Builtin.append_ #[t, t] ty #[v, .slice a 0 c]).run P w = .ok v w := by
  rcases hown.2 with ⟨rfl, rfl⟩ | ⟨g, cap, cur, rfl, _, _, hnc, _⟩
  · cases a <;> simp [Builtin.append_, run_underlying ht, sizeOf, typeInfo, hi, Builtin.lenOf, Builtin.firstCells, loadCells, loadCellsFrom]
  · cases a <;> simp [Builtin.append_, run_underlying ht, sizeOf, typeInfo, hi, Builtin.lenOf, Builtin.firstCells, hnc, storeCells, loadCells, loadCellsFrom]

theorem wpList_append_zero {P : Program} (w : World) {ops : Array Oper} {rest : List Oper} {o : Oper} {a : Act} {Q : Exit → Act → World → Prop}
    (hg : o.guard = none) (s x : Operand) (t : TypeId) (hop : o.op = Op.call { callee := Callee.builtin Builtin.append, args := #[s, x], argTypes := #[t, t] })
    (base : Nat) (e : TypeId) (i : TypeInfo) (size : Nat) (ht : P.underlying t = some (.slice e)) (hi : P.info? e = some i)
    (v : Value) (n : Nat) (xs : List Value) (hs : a.eval s = v) (hown : w.ownsRow base e size v n xs) (ao : Option Addr) (c : Nat) (hx : a.eval x = .slice ao 0 c)
    (hK : wpList P ops Q rest (a.put o.dst v) w) : wpList P ops Q (o :: rest) a w := by
  refine wpList_plain hg fun K hK' => ?_
  have hrun := run_append_zero (P := P) w base t o.type e i size ht hi v n xs hown ao c
  unfold Oper.wp
  simp [execOp, hop, resolve, invoke, builtin, hs, hx, hrun, Result.andThen]
  exact hK' _ _ hK

theorem intsV_oneCell (l : List Nat) : ∀ u ∈ intsV l, u.oneCell' = true := by
  intro u hu
  obtain ⟨_, _, rfl⟩ := List.mem_map.1 hu
  rfl

theorem wpList_del (w : World) {ops : Array Oper} {rest : List Oper} {o : Oper} {a : Act} {Q : Exit → Act → World → Prop}
    (hg : o.guard = none) (m x : Operand) (hop : o.op = Op.call { callee := Callee.builtin Builtin.delete, args := #[m, x], argTypes := #[56, 3] })
    (b p : Nat) (mv : Nat → Option Value) (hm : a.eval m = .map (some b)) (hx : a.eval x = .int .i64 (p : Int)) (hp : p ≤ 9223372036854775807) (h : MapAt w b mv)
    (hK : ∀ w', MapAt w' b (upd mv p none) → w.grownBy w' (some b) → wpList Try.prog ops Q rest (a.put o.dst (.tuple #[])) w') : wpList Try.prog ops Q (o :: rest) a w := by
  refine wpList_plain hg fun K hK' => ?_
  obtain ⟨w', hrun, h1, h2⟩ := h.delete hp o.type
  unfold Oper.wp
  simp [execOp, hop, resolve, invoke, builtin, hm, hx, hrun, Result.andThen]
  exact hK' _ _ (hK w' h1 h2)

section
variable {E : Env} {H : Hist} {st : St} {mv : Nat → Option Value} {w w' : World}

/-- a block that is none of the ordering's has turned -/
theorem OI.other (h : OI E H st mv w) {r : Option Nat} (hg : w.grownBy w' r) (hr : ∀ b, r = some b → E.wp.heap.size ≤ b ∧ b ∉ E.own ∧ ∀ p, (wv mv p).ownBlock ≠ some b) : OI E H st mv w' := by
  have hb : ∀ x, x ∈ E.own → w'.heap[x]? = w.heap[x]? := fun x hx => hg.block x (h.lt x hx) (fun e => (hr x e.symm).2.1 hx)
  refine ⟨h.bel.grown hg h.bel.size (fun j hj => (hr j hj).1), h.nd, h.ge, by rw [hb _ (by simp [Env.own])]; exact h.c, by rw [hb _ (by simp [Env.own])]; exact h.o,
    h.next.of_block (hb _ (by simp [Env.own])), h.tak.of_block (hb _ (by simp [Env.own])), h.high.of_block (hb _ (by simp [Env.own])), h.ord.kept hg ?_, h.map.of_block (hb _ (by simp [Env.own])), fun p => (h.rows p).kept hg ?_, h.apart, h.fresh⟩
  · exact .inr (fun e => (hr _ e.symm).2.1 (by simp [Env.own]))
  · cases hq : (wv mv p).ownBlock with
    | none => exact .inl rfl
    | some g => exact .inr (fun e => (hr g e.symm).2.2 p hq)

/-- delete(o.waiting, i) -/
theorem OI.del (h : OI E H st mv w) {i : Nat} (hm : MapAt w' E.bmap (upd mv i none)) (hg : w.grownBy w' (some E.bmap)) : OI E H { st with wait := upd st.wait i [] } (upd mv i none) w' := by
  obtain ⟨hb, h1, h2⟩ := h.part (by simp [Env.own]) hg
  obtain ⟨a1, a2, a3, a4, a5, a6, b1, b2, b3, b4, b5, c1, c2, c3, c4, d1, d2, d3, e1, e2, f1⟩ := h.ne
  have hw : ∀ q, q ≠ i → wv (upd mv i none) q = wv mv q := fun q hq => by unfold wv; rw [upd_other _ _ hq]
  have hwi : wv (upd mv i none) i = .slice none 0 0 := by unfold wv; rw [upd_same]; rfl
  refine ⟨h1, h.nd, h.ge, by rw [hb _ (by simp [Env.own]) b4]; exact h.c, by rw [hb _ (by simp [Env.own]) c3]; exact h.o, h.next.of_block (hb _ (by simp [Env.own]) d2), h.tak.of_block (hb _ (by simp [Env.own]) e1),
    h.high.of_block (hb _ (by simp [Env.own]) a5), h.ord.kept hg (.inr (by simp [Value.ownBlock]; exact f1.symm)), hm, fun q => ?_, fun p q hpq => ?_, fun q g hg' => ?_⟩
  · by_cases e : q = i
    · subst e; rw [hwi]; simp only [upd_same]; exact World.ownsRow_nil _ _ _ _
    · rw [hw q e]; simp only [upd_other _ _ e]; exact h2 q
  · by_cases e : p = i
    · subst e; rw [hwi]; exact .inl rfl
    · by_cases e' : q = i
      · subst e'; rw [hwi]
        cases hq' : (wv (upd mv q none) p).ownBlock with
        | none => exact .inl rfl
        | some g => exact .inr (by simp [Value.ownBlock])
      · rw [hw p e, hw q e']; exact h.apart p q hpq
  · by_cases e : q = i
    · subst e; rw [hwi] at hg'; cases hg'
    · rw [hw q e] at hg'; exact h.fresh q g hg'

/-- o.waiting[p] = append(o.waiting[p], s): the row has grown (in place or anew), then the map's entry is set. -/
theorem OI.setWait (h : OI E H st mv w) {p s : Nat} {w1 w2 : World} {g cap : Nat} (hgrow : w.grownBy w1 (wv mv p).ownBlock)
    (hown : w1.ownsRow E.wp.heap.size 3 1 (.slice (some ⟨g, 0, none⟩) ((st.wait p).length + 1) cap) ((st.wait p).length + 1) (intsV (st.wait p) ++ [.int .i64 (s : Nat)]))
    (hat : (wv mv p).ownBlock = some g ∨ w.heap.size ≤ g)
    (hm : MapAt w2 E.bmap (upd mv p (some (.slice (some ⟨g, 0, none⟩) ((st.wait p).length + 1) cap)))) (hg2 : w1.grownBy w2 (some E.bmap)) :
    OI E H (waitSt st p s) (upd mv p (some (.slice (some ⟨g, 0, none⟩) ((st.wait p).length + 1) cap))) w2 := by
  generalize hv : Value.slice (some ⟨g, 0, none⟩) ((st.wait p).length + 1) cap = v at *
  have hvb : v.ownBlock = some g := by rw [← hv]; rfl
  obtain ⟨a1, a2, a3, a4, a5, a6, b1, b2, b3, b4, b5, c1, c2, c3, c4, d1, d2, d3, e1, e2, f1⟩ := h.ne
  have hgo : g ∉ E.own := by
    intro hmem
    rcases hat with hat | hat
    · exact h.fresh p g hat hmem
    · have := h.lt g hmem; omega
  have hb1 : ∀ x, x ∈ E.own → w1.heap[x]? = w.heap[x]? := fun x hx => hgrow.block x (h.lt x hx) (fun e => h.fresh p x e.symm hx)
  have hlt : ∀ x, x ∈ E.own → x < w1.heap.size := fun x hx => Nat.lt_of_lt_of_le (h.lt x hx) hgrow.size
  have hb2 : ∀ x, x ∈ E.own → x ≠ E.bmap → w2.heap[x]? = w.heap[x]? := fun x hx hne => (hg2.block x (hlt x hx) (by simpa using hne)).trans (hb1 x hx)
  have hbel1 : Below E.wp.heap.size E.wp w1 := h.bel.grown hgrow h.bel.size (fun j hj => (( h.rows p).lt j hj).1)
  have hbel2 : Below E.wp.heap.size E.wp w2 := hbel1.grown hg2 hbel1.size (fun j hj => by cases hj; exact h.ge _ (by simp [Env.own]))
  have hw : ∀ q, q ≠ p → wv (upd mv p (some v)) q = wv mv q := fun q hq => by unfold wv; rw [upd_other _ _ hq]
  have hwi : wv (upd mv p (some v)) p = v := by unfold wv; rw [upd_same]; rfl
  have old_new : ∀ q, q ≠ p → ∀ g', (wv mv q).ownBlock = some g' → g' ≠ g := by
    intro q hq g' hq' e
    subst e
    rcases hat with hat | hat
    · rcases h.apart q p hq with h5 | h5
      · rw [h5] at hq'; cases hq'
      · exact h5 (hq'.trans hat.symm)
    · have := ((h.rows q).lt g' hq').2; omega
  refine ⟨hbel2, h.nd, h.ge, by rw [hb2 _ (by simp [Env.own]) b4]; exact h.c, by rw [hb2 _ (by simp [Env.own]) c3]; exact h.o, h.next.of_block (hb2 _ (by simp [Env.own]) d2), h.tak.of_block (hb2 _ (by simp [Env.own]) e1),
    h.high.of_block (hb2 _ (by simp [Env.own]) a5), ?_, hm, fun q => ?_, fun q q' hqq => ?_, fun q g' hg' => ?_⟩
  · have k1 := h.ord.kept hgrow (.inr (fun e => h.fresh p _ e.symm (by simp [Env.own])))
    exact k1.kept hg2 (.inr (by simp [Value.ownBlock]; exact f1.symm))
  · by_cases e : q = p
    · subst e
      rw [hwi]
      have k1 := hown.kept hg2 (.inr (by rw [hvb]; intro e2; cases e2; exact hgo (by simp [Env.own])))
      simpa [waitSt, upd_same, intsV] using k1
    · rw [hw q e]
      simp only [waitSt, upd_other _ _ e]
      have k1 := (h.rows q).kept hgrow (h.apart q p e)
      exact k1.kept hg2 (ownBlock_ne fun g' hg' e2 => by subst e2; exact h.fresh q _ hg' (by simp [Env.own]))
  · by_cases e : q = p
    · subst e
      rw [hwi, hw q' (fun e2 => hqq e2.symm), hvb]
      refine .inr (fun e2 => ?_)
      exact old_new q' (fun e3 => hqq e3.symm) g e2.symm rfl
    · by_cases e' : q' = p
      · subst e'
        rw [hw q e, hwi, hvb]
        exact ownBlock_ne (old_new q e)
      · rw [hw q e, hw q' e']; exact h.apart q q' hqq
  · by_cases e : q = p
    · subst e; rw [hwi, hvb] at hg'; cases hg'; exact hgo
    · rw [hw q e] at hg'; exact h.fresh q g' hg'
end
end Go.Proofs.Qxb6001561a
