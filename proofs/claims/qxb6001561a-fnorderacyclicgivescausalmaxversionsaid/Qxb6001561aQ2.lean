import Derived.Test.Qxb6001561aQ1
namespace Go.Proofs.Qxb6001561a
set_option linter.unusedVariables false
set_option linter.unusedSimpArgs false
open Go.RowKit Go.Maps

/-- what an invariant of the order must bear -/
structure Inv (H : Hist) (J : St → List Nat → Prop) : Prop where
  start : J St.start (List.range H.k)
  turn : ∀ st s q, s < H.k → WF H st (q.length + 1) → J st (s :: q) → J (adv H (H.n + 1) st s false).1 (q ++ (adv H (H.n + 1) st s false).2)
  force : ∀ st s, s < H.k → WF H st 0 → J st [] → st.next s < (H.seq s).length → J (adv H (H.n + 1) st s true).1 (adv H (H.n + 1) st s true).2

structure QR (E : Env) (H : Hist) (J : St → List Nat → Prop) (st : St) (mv : Nat → Option Value) (q : List Nat) (qv : Value) (w : World) : Prop where
  oi : OI E H st mv w
  wf : WF H st q.length
  qat : QAt w qv q
  qlt : ∀ x, x ∈ q → x < H.k
  fresh : ∀ b, qv.ownBlock = some b → E.wp.heap.size ≤ b ∧ b ∉ E.own ∧ ∀ p, (wv mv p).ownBlock ≠ some b
  j : J st q

section
variable {E : Env} {H : Hist} {J : St → List Nat → Prop} {st : St} {mv mv' : Nat → Option Value} {q : List Nat} {qv v1 v2 v : Value} {w w' w2 : World} {s : Nat}

theorem QR.grow (h : QR E H J st mv q qv w) (hg : w.grownBy w' none) : QR E H J st mv q qv w' :=
  ⟨h.oi.grow hg, h.wf, h.qat.keep (S := fun _ => False) (Keep.of_grown hg (by simp)) (fun _ _ f => f), h.qlt, h.fresh, h.j⟩

/-- the queue's rest, behind the call of advance -/
theorem QR.mid (h : QR E H J st mv (s :: q) qv w) (h1 : QAt w v1 q) (hb1 : v1.ownBlock = qv.ownBlock) (hp : AdvPost E H st mv w s false q.length mv' v w') : QAt w' v1 q :=
  h1.keep hp.2.2.2.1 (fun b hb hs => by
    obtain ⟨_, f2, f3⟩ := h.fresh b (hb1 ▸ hb)
    rcases hs with hs | ⟨p, hp'⟩
    · exact f2 hs
    · exact f3 p hp')

theorem QR.next (hJ : Inv H J) (h : QR E H J st mv (s :: q) qv w) (h1 : QAt w v1 q) (hb1 : v1.ownBlock = qv.ownBlock) (hp : AdvPost E H st mv w s false q.length mv' v w')
    (h2 : QAt w2 v2 (q ++ (adv H (H.n + 1) st s false).2)) (hg : w'.grownBy w2 v1.ownBlock) (hl : v2.ownBlock = v1.ownBlock ∨ v2.ownBlock = some w'.heap.size) :
    QR E H J (adv H (H.n + 1) st s false).1 mv' (q ++ (adv H (H.n + 1) st s false).2) v2 w2 := by
  obtain ⟨p1, p2, p3, p4, p5⟩ := hp
  have hs : s < H.k := h.qlt s (by simp)
  have hfr : ∀ b, v1.ownBlock = some b → E.wp.heap.size ≤ b ∧ b ∉ E.own ∧ ∀ p, (wv mv' p).ownBlock ≠ some b := fun b hb => by
    obtain ⟨f1, f2, f3⟩ := h.fresh b (hb1 ▸ hb)
    refine ⟨f1, f2, fun p hp => ?_⟩
    rcases p5 p b hp with e | ⟨e, _⟩
    · exact f3 p e
    · have := h1.lt hb
      omega
  refine ⟨p1.other hg hfr, ?_, h2, fun x hx => ?_, fun b hb => ?_, hJ.turn st s q hs h.wf h.j⟩
  · rw [List.length_append]; exact p2
  · rcases List.mem_append.1 hx with hx | hx
    · exact h.qlt x (by simp [hx])
    · exact adv_lt hs _ _ _ h.wf.waitLt x hx
  · rcases hl with hl | hl
    · exact hfr b (hl ▸ hb)
    · rw [hl] at hb
      cases hb
      refine ⟨p1.bel.size, fun hm => ?_, fun p hp => ?_⟩
      · have := p1.lt _ hm; omega
      · have := ((p1.rows p).lt _ hp).2; omega

theorem QR.forced (hJ : Inv H J) (h : QR E H J st mv [] qv w) (hs : s < H.k) (hlt : st.next s < (H.seq s).length) (hp : AdvPost E H st mv w s true 0 mv' v w') :
    QR E H J (adv H (H.n + 1) st s true).1 mv' (adv H (H.n + 1) st s true).2 v w' := by
  obtain ⟨p1, p2, p3, p4, p5⟩ := hp
  refine ⟨p1, by simpa using p2, QAt.of_owns p3, adv_lt hs _ _ _ h.wf.waitLt, fun b hb => ?_, hJ.force st s hs h.wf h.j hlt⟩
  have e1 := (p3.lt b hb).1
  refine ⟨Nat.le_trans h.oi.bel.size e1, fun hm => ?_, fun p hp => ?_⟩
  · have := h.oi.lt _ hm; omega
  · rcases p5 p b hp with e | ⟨_, e⟩
    · have := ((h.oi.rows p).lt b e).2; omega
    · exact e hb
end
end Go.Proofs.Qxb6001561a
