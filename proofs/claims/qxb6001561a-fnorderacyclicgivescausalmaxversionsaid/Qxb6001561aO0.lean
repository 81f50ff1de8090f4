import Derived.Test.Qxb6001561aM0
namespace Go.Proofs.Qxb6001561a
set_option linter.unusedVariables false
set_option linter.unusedSimpArgs false
open Go.RowKit Go.Maps

def kindV (b : Bool) : Value := if b = true then .string ⟨#[112, 117, 116]⟩ else .string ⟨#[103, 101, 116]⟩

/-- v is a slice of versionPuts whose indices are l. -/
def VpAt (w : World) (v : Value) (l : List Nat) : Prop :=
  ∃ ao cap, v = .slice ao l.length cap ∧ (0 < l.length → ∃ b, ao = some ⟨b, 0, none⟩ ∧ ∀ t, t < l.length →
    w.cell? ⟨b, t * 3, none⟩ = some (.int .u64 0) ∧ w.cell? ⟨b, t * 3 + 1, none⟩ = some (.int .i64 0) ∧ w.cell? ⟨b, t * 3 + 2, none⟩ = some (.int .i64 (l.getD t 0 : Nat)))

theorem VpAt.below {w w' : World} {v : Value} {l : List Nat} (h : VpAt w v l) (hb : Below w.heap.size w w') : VpAt w' v l := by
  obtain ⟨ao, cap, rfl, hc⟩ := h
  refine ⟨ao, cap, rfl, fun h0 => ?_⟩
  obtain ⟨b, rfl, hcell⟩ := hc h0
  refine ⟨b, rfl, fun j hj => ?_⟩
  obtain ⟨h1, h2, h3⟩ := hcell j hj
  exact ⟨cell_below (B := 0) hb h1, cell_below (B := 0) hb h2, cell_below (B := 0) hb h3⟩

structure Env where
  wp : World
  bops : Nat
  bseqs : Nat
  bsess : Nat
  bplace : Nat
  bsrc : Nat
  sv : Nat → Value
  tv : Nat → Value
  bhigh : Nat
  bc : Nat
  bo : Nat
  bnext : Nat
  btak : Nat
  bmap : Nat
  bord : Nat

/-- What stands when order begins, and is never written. -/
structure Stat (E : Env) (H : Hist) : Prop where
  ops : ∀ j, j < H.n → E.wp.cell? ⟨E.bops, j * 10 + 2, none⟩ = some (kindV (H.put j)) ∧ E.wp.cell? ⟨E.bops, j * 10 + 4, none⟩ = some (.int .u64 (H.ver j))
  seqs : ∀ q, q < H.k → E.wp.cell? ⟨E.bseqs, q, none⟩ = some (E.sv q)
  seq : ∀ q, q < H.k → SlAt E.wp (E.sv q) (H.seq q).length (fun t => .int .i64 ((H.seq q).getD t 0 : Nat))
  sess : ∀ j, j < H.n → E.wp.cell? ⟨E.bsess, j, none⟩ = some (.int .i64 (H.sess j : Nat))
  place : ∀ j, j < H.n → E.wp.cell? ⟨E.bplace, j, none⟩ = some (.int .i64 (H.place j : Nat))
  srcs : ∀ j, j < H.n → E.wp.cell? ⟨E.bsrc, j, none⟩ = some (E.tv j)
  src : ∀ j, j < H.n → VpAt E.wp (E.tv j) (H.src j)

def wv (mv : Nat → Option Value) (p : Nat) : Value := (mv p).getD (.slice none 0 0)

def Env.own (E : Env) : List Nat := [E.bhigh, E.bc, E.bo, E.bnext, E.btak, E.bmap, E.bord]

/-- THE STATE OF THE ORDERING AS IT LIES IN MEMORY. -/
structure OI (E : Env) (H : Hist) (st : St) (mv : Nat → Option Value) (w : World) : Prop where
  bel : Below E.wp.heap.size E.wp w
  nd : E.own.Nodup
  ge : ∀ b, b ∈ E.own → E.wp.heap.size ≤ b
  c : w.heap[E.bc]? = some (.cells #[.slice (some ⟨E.bops, 0, none⟩) H.n H.n, .slice (some ⟨E.bseqs, 0, none⟩) H.k H.k, .map none, .slice (some ⟨E.bsess, 0, none⟩) H.n H.n, .slice (some ⟨E.bplace, 0, none⟩) H.n H.n, .slice (some ⟨E.bsrc, 0, none⟩) H.n H.n, .slice (some ⟨E.bhigh, 0, none⟩) H.n H.n] 53 (0, 0))
  o : w.heap[E.bo]? = some (.cells #[.pointer (some ⟨E.bc, 0, none⟩), .slice (some ⟨E.bnext, 0, none⟩) H.k H.k, .slice (some ⟨E.btak, 0, none⟩) H.n H.n, .map (some E.bmap), .slice (some ⟨E.bord, 0, none⟩) st.ord.length H.n] 58 (0, 0))
  next : w.rowIs E.bnext 3 H.k (fun q => .int .i64 (st.next q : Nat))
  tak : w.rowIs E.btak 4 H.n (fun j => .bool (st.taken j))
  high : w.rowIs E.bhigh 40 H.n (fun j => .int .u64 (st.high j))
  ord : w.ownsRow E.wp.heap.size 3 1 (.slice (some ⟨E.bord, 0, none⟩) st.ord.length H.n) st.ord.length (intsV st.ord)
  map : MapAt w E.bmap mv
  rows : ∀ p, w.ownsRow E.wp.heap.size 3 1 (wv mv p) (st.wait p).length (intsV (st.wait p))
  apart : ∀ p q, p ≠ q → (wv mv p).ownBlock = none ∨ (wv mv p).ownBlock ≠ (wv mv q).ownBlock
  fresh : ∀ p g, (wv mv p).ownBlock = some g → g ∉ E.own

section
variable {E : Env} {H : Hist} {st : St} {mv : Nat → Option Value} {w w' : World}

theorem ownBlock_ne {v : Value} {b : Nat} (h : ∀ g, v.ownBlock = some g → g ≠ b) : v.ownBlock = none ∨ v.ownBlock ≠ some b := by
  cases hv : v.ownBlock with
  | none => exact .inl rfl
  | some g => exact .inr (fun e => h g hv (by simpa using e))

theorem OI.lt (h : OI E H st mv w) : ∀ b, b ∈ E.own → b < w.heap.size := by
  intro b hb
  have k1 : ∀ {x : Nat} {o : Obj}, w.heap[x]? = some o → x < w.heap.size := fun hx => (Array.getElem?_eq_some_iff.1 hx).1
  simp only [Env.own, List.mem_cons, List.not_mem_nil, or_false] at hb
  rcases hb with rfl | rfl | rfl | rfl | rfl | rfl | rfl
  · exact h.high.lt
  · exact k1 h.c
  · exact k1 h.o
  · exact h.next.lt
  · exact h.tak.lt
  · exact h.map.lt
  · exact (h.ord.lt _ rfl).2

theorem OI.ne (h : OI E H st mv w) : E.bhigh ≠ E.bc ∧ E.bhigh ≠ E.bo ∧ E.bhigh ≠ E.bnext ∧ E.bhigh ≠ E.btak ∧ E.bhigh ≠ E.bmap ∧ E.bhigh ≠ E.bord ∧ E.bc ≠ E.bo ∧ E.bc ≠ E.bnext ∧ E.bc ≠ E.btak ∧ E.bc ≠ E.bmap ∧ E.bc ≠ E.bord ∧
    E.bo ≠ E.bnext ∧ E.bo ≠ E.btak ∧ E.bo ≠ E.bmap ∧ E.bo ≠ E.bord ∧ E.bnext ≠ E.btak ∧ E.bnext ≠ E.bmap ∧ E.bnext ≠ E.bord ∧ E.btak ≠ E.bmap ∧ E.btak ≠ E.bord ∧ E.bmap ≠ E.bord := by
  have := h.nd
  simp only [Env.own, List.nodup_cons, List.mem_cons, List.not_mem_nil, or_false, not_or, List.nodup_nil] at this
  simp only [and_true, true_and, not_false_eq_true, ne_eq] at this ⊢
  obtain ⟨⟨a1, a2, a3, a4, a5, a6⟩, ⟨b1, b2, b3, b4, b5⟩, ⟨c1, c2, c3, c4⟩, ⟨d1, d2, d3⟩, ⟨e1, e2⟩, f1⟩ := this
  exact ⟨a1, a2, a3, a4, a5, a6, b1, b2, b3, b4, b5, c1, c2, c3, c4, d1, d2, d3, e1, e2, f1⟩

/-- one of the ordering's own blocks, b, has turned; all else stands -/
theorem OI.part (h : OI E H st mv w) {b : Nat} (hb : b ∈ E.own) (hg : w.grownBy w' (some b)) :
    (∀ x, x ∈ E.own → x ≠ b → w'.heap[x]? = w.heap[x]?) ∧ Below E.wp.heap.size E.wp w' ∧ (∀ p, w'.ownsRow E.wp.heap.size 3 1 (wv mv p) (st.wait p).length (intsV (st.wait p))) := by
  refine ⟨fun x hx hne => hg.block x (h.lt x hx) (by simpa using hne), h.bel.grown hg h.bel.size (fun j hj => by cases hj; exact h.ge _ hb), fun p => (h.rows p).kept hg (ownBlock_ne fun g hg' e => ?_)⟩
  subst e
  exact h.fresh p g hg' hb

theorem OI.grow (h : OI E H st mv w) (hg : w.grownBy w' none) : OI E H st mv w' := by
  have hb : ∀ x, x ∈ E.own → w'.heap[x]? = w.heap[x]? := fun x hx => hg.block x (h.lt x hx) (by simp)
  exact ⟨h.bel.grown hg h.bel.size (by simp), h.nd, h.ge, by rw [hb _ (by simp [Env.own])]; exact h.c, by rw [hb _ (by simp [Env.own])]; exact h.o,
    h.next.of_block (hb _ (by simp [Env.own])), h.tak.of_block (hb _ (by simp [Env.own])), h.high.of_block (hb _ (by simp [Env.own])), h.ord.kept hg (.inr (by simp [Value.ownBlock])), h.map.of_block (hb _ (by simp [Env.own])),
    fun p => (h.rows p).kept hg (by cases (wv mv p).ownBlock <;> simp), h.apart, h.fresh⟩

theorem OI.drew (h : OI E H st mv w) : OI E H st mv w.drew := ⟨h.bel.drew, h.nd, h.ge, h.c, h.o, h.next, h.tak, h.high, h.ord, h.map, h.rows, h.apart, h.fresh⟩

theorem OI.setHigh (h : OI E H st mv w) (i : Nat) (x : Int) : OI E H { st with high := upd st.high i x } mv (w.setCell ⟨E.bhigh, i, none⟩ (.int .u64 x)) := by
  have hg := grownBy_setCell w ⟨E.bhigh, i, none⟩ (.int .u64 x)
  obtain ⟨hb, h1, h2⟩ := h.part (by simp [Env.own]) hg
  obtain ⟨a1, a2, a3, a4, a5, a6, b1, b2, b3, b4, b5, c1, c2, c3, c4, d1, d2, d3, e1, e2, f1⟩ := h.ne
  refine ⟨h1, h.nd, h.ge, by rw [hb _ (by simp [Env.own]) a1.symm]; exact h.c, by rw [hb _ (by simp [Env.own]) a2.symm]; exact h.o, h.next.of_block (hb _ (by simp [Env.own]) a3.symm), h.tak.of_block (hb _ (by simp [Env.own]) a4.symm),
    (h.high.set i _).congr (fun j _ => ?_), h.ord.kept hg (.inr (by simp [Value.ownBlock]; exact a6.symm)), h.map.of_block (hb _ (by simp [Env.own]) a5.symm), h2, h.apart, h.fresh⟩
  simp only [upd]; split <;> rfl

theorem OI.setTak (h : OI E H st mv w) (i : Nat) (x : Bool) : OI E H { st with taken := upd st.taken i x } mv (w.setCell ⟨E.btak, i, none⟩ (.bool x)) := by
  have hg := grownBy_setCell w ⟨E.btak, i, none⟩ (.bool x)
  obtain ⟨hb, h1, h2⟩ := h.part (by simp [Env.own]) hg
  obtain ⟨a1, a2, a3, a4, a5, a6, b1, b2, b3, b4, b5, c1, c2, c3, c4, d1, d2, d3, e1, e2, f1⟩ := h.ne
  refine ⟨h1, h.nd, h.ge, by rw [hb _ (by simp [Env.own]) b3]; exact h.c, by rw [hb _ (by simp [Env.own]) c2]; exact h.o, h.next.of_block (hb _ (by simp [Env.own]) d1),
    (h.tak.set i _).congr (fun j _ => ?_), h.high.of_block (hb _ (by simp [Env.own]) a4), h.ord.kept hg (.inr (by simp [Value.ownBlock]; exact e2.symm)), h.map.of_block (hb _ (by simp [Env.own]) e1.symm), h2, h.apart, h.fresh⟩
  simp only [upd]; split <;> rfl

theorem OI.setNext (h : OI E H st mv w) (q : Nat) (x : Nat) : OI E H { st with next := upd st.next q x } mv (w.setCell ⟨E.bnext, q, none⟩ (.int .i64 (x : Nat))) := by
  have hg := grownBy_setCell w ⟨E.bnext, q, none⟩ (.int .i64 (x : Nat))
  obtain ⟨hb, h1, h2⟩ := h.part (by simp [Env.own]) hg
  obtain ⟨a1, a2, a3, a4, a5, a6, b1, b2, b3, b4, b5, c1, c2, c3, c4, d1, d2, d3, e1, e2, f1⟩ := h.ne
  refine ⟨h1, h.nd, h.ge, by rw [hb _ (by simp [Env.own]) b2]; exact h.c, by rw [hb _ (by simp [Env.own]) c1]; exact h.o, (h.next.set q _).congr (fun j _ => ?_), h.tak.of_block (hb _ (by simp [Env.own]) d1.symm),
    h.high.of_block (hb _ (by simp [Env.own]) a3), h.ord.kept hg (.inr (by simp [Value.ownBlock]; exact d3.symm)), h.map.of_block (hb _ (by simp [Env.own]) d2.symm), h2, h.apart, h.fresh⟩
  simp only [upd]; split <;> rfl

/-- o.order = append(o.order, i): there is room: the row is written in place, then the field. -/
theorem OI.setOrd (h : OI E H st mv w) (i : Nat) {w1 : World} (hgrow : w.grownBy w1 (some E.bord))
    (hown : w1.ownsRow E.wp.heap.size 3 1 (.slice (some ⟨E.bord, 0, none⟩) (st.ord.length + 1) H.n) (st.ord.length + 1) (intsV st.ord ++ [.int .i64 (i : Nat)])) :
    OI E H { st with ord := st.ord ++ [i] } mv (w1.setCell ⟨E.bo, 4, none⟩ (.slice (some ⟨E.bord, 0, none⟩) (st.ord.length + 1) H.n)) := by
  obtain ⟨hb, h1, h2⟩ := h.part (by simp [Env.own]) hgrow
  obtain ⟨a1, a2, a3, a4, a5, a6, b1, b2, b3, b4, b5, c1, c2, c3, c4, d1, d2, d3, e1, e2, f1⟩ := h.ne
  generalize hv : Value.slice (some ⟨E.bord, 0, none⟩) (st.ord.length + 1) H.n = v at *
  have hvb : v.ownBlock = some E.bord := by rw [← hv]; rfl
  have hg2 := grownBy_setCell w1 ⟨E.bo, 4, none⟩ v
  have hlt : ∀ x, x ∈ E.own → x < w1.heap.size := fun x hx => Nat.lt_of_lt_of_le (h.lt x hx) hgrow.size
  have hb2 : ∀ x, x ∈ E.own → x ≠ E.bord → x ≠ E.bo → (w1.setCell ⟨E.bo, 4, none⟩ v).heap[x]? = w.heap[x]? := fun x hx hne hne2 =>
    (hg2.block x (hlt x hx) (by simpa using hne2)).trans (hb x hx hne)
  have ho1 : w1.heap[E.bo]? = _ := (hb E.bo (by simp [Env.own]) c4).trans h.o
  refine ⟨h1.setCell (h.ge _ (by simp [Env.own])) _, h.nd, h.ge, by rw [hb2 _ (by simp [Env.own]) b5 b1]; exact h.c, ?_, h.next.of_block (hb2 _ (by simp [Env.own]) d3 c1.symm), h.tak.of_block (hb2 _ (by simp [Env.own]) e2 c2.symm),
    h.high.of_block (hb2 _ (by simp [Env.own]) a6 a2), ?_, h.map.of_block (hb2 _ (by simp [Env.own]) f1 c3.symm), fun p => ?_, h.apart, h.fresh⟩
  · have := heap_setCell_same w1 E.bo 4 _ _ v ho1
    rw [this, ← hv]
    simp
  · have hk := hown.kept hg2 (.inr (by rw [hvb]; simpa using c4.symm))
    rw [← hv] at hk ⊢
    simpa [intsV] using hk
  · exact (h2 p).kept hg2 (ownBlock_ne fun g hg' e => by subst e; exact h.fresh p _ hg' (by simp [Env.own]))

/-- what the walk reads -/
theorem OI.cc (h : OI E H st mv w) : w.cell? ⟨E.bc, 0, none⟩ = some (.slice (some ⟨E.bops, 0, none⟩) H.n H.n) ∧ w.cell? ⟨E.bc, 1, none⟩ = some (.slice (some ⟨E.bseqs, 0, none⟩) H.k H.k) ∧ w.cell? ⟨E.bc, 3, none⟩ = some (.slice (some ⟨E.bsess, 0, none⟩) H.n H.n) ∧
    w.cell? ⟨E.bc, 4, none⟩ = some (.slice (some ⟨E.bplace, 0, none⟩) H.n H.n) ∧ w.cell? ⟨E.bc, 5, none⟩ = some (.slice (some ⟨E.bsrc, 0, none⟩) H.n H.n) ∧ w.cell? ⟨E.bc, 6, none⟩ = some (.slice (some ⟨E.bhigh, 0, none⟩) H.n H.n) := by
  refine ⟨?_, ?_, ?_, ?_, ?_, ?_⟩ <;> (rw [cell_of_row w _ _ _ _ _ h.c]; rfl)
theorem OI.oo (h : OI E H st mv w) : w.cell? ⟨E.bo, 0, none⟩ = some (.pointer (some ⟨E.bc, 0, none⟩)) ∧ w.cell? ⟨E.bo, 1, none⟩ = some (.slice (some ⟨E.bnext, 0, none⟩) H.k H.k) ∧ w.cell? ⟨E.bo, 2, none⟩ = some (.slice (some ⟨E.btak, 0, none⟩) H.n H.n) ∧
    w.cell? ⟨E.bo, 3, none⟩ = some (.map (some E.bmap)) ∧ w.cell? ⟨E.bo, 4, none⟩ = some (.slice (some ⟨E.bord, 0, none⟩) st.ord.length H.n) := by
  refine ⟨?_, ?_, ?_, ?_, ?_⟩ <;> (rw [cell_of_row w _ _ _ _ _ h.o]; rfl)
theorem OI.of (h : OI E H st mv w) (o : Nat) : w.frozen? ⟨E.bo, o, none⟩ = false := frozen_of_row w _ o _ _ h.o
theorem OI.stat (h : OI E H st mv w) {a : Addr} {v : Value} (hc : E.wp.cell? a = some v) : w.cell? a = some v := cell_below (B := 0) h.bel hc
end
end Go.Proofs.Qxb6001561a
