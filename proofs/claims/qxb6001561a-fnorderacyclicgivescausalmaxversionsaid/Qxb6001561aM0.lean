import Derived.Test.Qxb6001561aB0
import Derived.Maps.OwnSet
namespace Go.Proofs.Qxb6001561a
set_option linter.unusedVariables false
set_option linter.unusedSimpArgs false
open Go.RowKit Go.Maps

/-- Block b is a map whose keys are naturals; key p holds mv p. -/
def MapAt (w : World) (b : Nat) (mv : Nat → Option Value) : Prop :=
  ∃ es clock, w.heap[b]? = some (.map es clock) ∧ es.toList.Pairwise (fun x y => x.key ≠ y.key) ∧
    (∀ e ∈ es.toList, ∃ p : Nat, e.key = .int .i64 (p : Int) ∧ p ≤ 9223372036854775807 ∧ mv p = some e.val) ∧
    (∀ p v, mv p = some v → ∃ e ∈ es.toList, e.key = .int .i64 (p : Int) ∧ e.val = v)

theorem keyOf3 {p : Nat} (hp : p ≤ 9223372036854775807) : keyOf Try.prog 3 (.int .i64 (p : Int)) = some (.int .i64 (p : Int)) :=
  keyOf_int_mk Try.underlying3 (WalkArith.wf_i64 (by omega))
theorem keyed3 : Keyed Try.prog 3 := int_keyed Try.underlying3

theorem MapAt.of_block {w w' : World} {b : Nat} {mv : Nat → Option Value} (h : MapAt w b mv) (e : w'.heap[b]? = w.heap[b]?) : MapAt w' b mv := by
  obtain ⟨es, clock, hb, r⟩ := h
  exact ⟨es, clock, e.trans hb, r⟩
theorem MapAt.lt {w : World} {b : Nat} {mv : Nat → Option Value} (h : MapAt w b mv) : b < w.heap.size := by
  obtain ⟨es, clock, hb, r⟩ := h
  exact (Array.getElem?_eq_some_iff.1 hb).1
theorem MapAt.made (w : World) : MapAt (w.alloc (.map #[] 0)) w.heap.size (fun _ => none) :=
  ⟨#[], 0, Go.Deep.blk_alloc_new _ _, by simp, by simp, by simp⟩

theorem MapAt.find {w : World} {b : Nat} {mv : Nat → Option Value} {es : Array MapEntry} {p : Nat} (hp : p ≤ 9223372036854775807)
    (h1 : ∀ e ∈ es.toList, ∃ p : Nat, e.key = .int .i64 (p : Int) ∧ p ≤ 9223372036854775807 ∧ mv p = some e.val)
    (h2 : ∀ p v, mv p = some v → ∃ e ∈ es.toList, e.key = .int .i64 (p : Int) ∧ e.val = v) :
    ((Instr.findKey 3 (.int .i64 (p : Int)) es.toList).run Try.prog w = .ok none w ∧ mv p = none ∧ ∀ e ∈ es.toList, e.key ≠ .int .i64 (p : Int)) ∨
    ∃ j e, (Instr.findKey 3 (.int .i64 (p : Int)) es.toList).run Try.prog w = .ok (some (j, e.val)) w ∧ es.toList[j]? = some e ∧ e.key = .int .i64 (p : Int) ∧ mv p = some e.val := by
  have hkeys : ∀ e ∈ es.toList, ∃ l, keyOf Try.prog 3 e.key = some l := fun e he => by
    obtain ⟨q, hq, hq2, _⟩ := h1 e he
    exact ⟨_, by rw [hq]; exact keyOf3 hq2⟩
  rcases keyed3.find w (keyOf3 hp) es.toList hkeys with ⟨hr, hne⟩ | ⟨j, e, hr, hj, hk⟩
  · refine .inl ⟨hr, ?_, hne⟩
    cases hm : mv p with
    | none => rfl
    | some v =>
      obtain ⟨e, he, hk, _⟩ := h2 p v hm
      exact absurd hk (hne e he)
  · refine .inr ⟨j, e, hr, hj, hk, ?_⟩
    obtain ⟨q, hq, _, hm⟩ := h1 e (List.mem_of_getElem? hj)
    rw [hk] at hq
    have : (p : Int) = (q : Int) := by simpa using hq
    have : p = q := by omega
    subst this; exact hm

theorem zero22 (w : World) : (zeroValue 22).run Try.prog w = .ok (.slice none 0 0) w := by kernel_rfl

theorem MapAt.lookup {w : World} {b : Nat} {mv : Nat → Option Value} (h : MapAt w b mv) {p : Nat} (hp : p ≤ 9223372036854775807) :
    (Instr.lookup 56 (.map (some b)) (.int .i64 (p : Int)) false).run Try.prog w = .ok ((mv p).getD (.slice none 0 0)) w := by
  obtain ⟨es, clock, hb, hpw, h1, h2⟩ := h
  have hc := keyed3.check w es.isEmpty (keyOf3 hp)
  rcases MapAt.find (w := w) (b := b) hp h1 h2 with ⟨hr, hm, _⟩ | ⟨j, e, hr, _, _, hm⟩
  · simp [Instr.lookup, run_underlying Try.underlying56, MapKept.run_getObj_map hb, hc, hr, hm, zero22, Result.andThen]
  · simp [Instr.lookup, run_underlying Try.underlying56, MapKept.run_getObj_map hb, hc, hr, hm, Result.andThen]

theorem grownBy_setBlock {w : World} {b : Nat} {es : Array MapEntry} {clock : Nat} (o' : Obj) (hb : w.heap[b]? = some (.map es clock)) : w.grownBy (ChangeMaps.setBlock w b o') (some b) :=
  ⟨rfl, rfl, rfl, by simp [ChangeMaps.setBlock], fun i _ hi => ChangeMaps.heap_setBlock_other hb _ (fun e1 => hi (by rw [e1]))⟩

theorem MapAt.update {w : World} {b : Nat} {mv : Nat → Option Value} (h : MapAt w b mv) {p : Nat} (hp : p ≤ 9223372036854775807) (v : Value) :
    ∃ w', (Instr.mapUpdate 56 (.map (some b)) (.int .i64 (p : Int)) v).run Try.prog w = .ok () w' ∧ MapAt w' b (upd mv p (some v)) ∧ w.grownBy w' (some b) := by
  obtain ⟨es, clock, hb, hpw, h1, h2⟩ := h
  have hc := keyed3.check w false (keyOf3 hp)
  rcases MapAt.find (w := w) (b := b) hp h1 h2 with ⟨hr, hm, hne⟩ | ⟨j, e, hr, hj, hk, hm⟩
  · refine ⟨ChangeMaps.setBlock w b (.map (es.push ⟨.int .i64 (p : Int), v, clock⟩) (clock + 1)), ?_, ⟨_, _, ChangeMaps.heap_setBlock_same hb _, ?_, ?_, ?_⟩, grownBy_setBlock _ hb⟩
    · simp [Instr.mapUpdate, run_underlying Try.underlying56, MapKept.run_getObj_map hb, hc, hr, MapKept.run_setObj_map _ hb, Result.andThen, ChangeMaps.setBlock]
    · rw [Array.toList_push, List.pairwise_append]
      refine ⟨hpw, by simp, fun x hx y hy => ?_⟩
      simp at hy; subst hy; exact hne x hx
    · intro x hx
      rw [Array.toList_push, List.mem_append] at hx
      rcases hx with hx | hx
      · obtain ⟨q, hq, hq2, hm2⟩ := h1 x hx
        refine ⟨q, hq, hq2, ?_⟩
        rw [upd_other]
        · exact hm2
        · intro e; subst e; exact hne x hx hq
      · simp at hx; subst hx
        exact ⟨p, rfl, hp, upd_same _ _ _⟩
    · intro q u hu
      by_cases e : q = p
      · subst e
        rw [upd_same] at hu
        cases hu
        exact ⟨⟨.int .i64 (q : Int), v, clock⟩, by simp, rfl, rfl⟩
      · rw [upd_other _ _ e] at hu
        obtain ⟨x, hx, hx2⟩ := h2 q u hu
        exact ⟨x, by simp [Array.mem_toList_iff.1 hx], hx2⟩
  · have hj' : es[j]? = some e := by simpa using hj
    have hst := keyed3.stays w (keyOf3 hp)
    have hlist : (es.modify j (fun e' => { e' with key := .int .i64 (p : Int), val := v })).toList = es.toList.set j { e with key := .int .i64 (p : Int), val := v } := by
      rw [Array.toList_modify, ChangeMaps.modify_eq_set _ _ _ _ hj]
    have hjl : j < es.toList.length := (List.getElem?_eq_some_iff.1 hj).1
    have hej : es.toList[j] = e := (List.getElem?_eq_some_iff.1 hj).2
    have hpw' := List.pairwise_iff_getElem.1 hpw
    refine ⟨ChangeMaps.setBlock w b (.map (es.modify j (fun e' => { e' with key := .int .i64 (p : Int), val := v })) clock), ?_, ⟨_, _, ChangeMaps.heap_setBlock_same hb _, ?_, ?_, ?_⟩, grownBy_setBlock _ hb⟩
    · simp [Instr.mapUpdate, run_underlying Try.underlying56, MapKept.run_getObj_map hb, hc, hr, hj', hk, hst, MapKept.run_setObj_map _ hb, Result.andThen, ChangeMaps.setBlock]
    · rw [hlist, List.pairwise_iff_getElem]
      intro a c ha hc hac
      rw [List.getElem_set, List.getElem_set]
      simp only [List.length_set] at ha hc
      split
      · rename_i e1; subst e1
        rw [if_neg (by omega)]
        have := hpw' j c ha hc hac
        rw [hej, hk] at this; exact this
      · split
        · rename_i e2; subst e2
          have := hpw' a j ha hc hac
          rw [hej, hk] at this; exact this
        · exact hpw' a c ha hc hac
    · intro x hx
      rw [hlist] at hx
      obtain ⟨a, ha0, hx⟩ := List.getElem_of_mem hx
      have ha : a < es.toList.length := by simpa using ha0
      rw [List.getElem_set] at hx
      split at hx
      · subst hx; exact ⟨p, rfl, hp, upd_same _ _ _⟩
      · rename_i hne
        obtain ⟨q, hq, hq2, hm2⟩ := h1 x (by rw [← hx]; exact List.getElem_mem ha)
        refine ⟨q, hq, hq2, ?_⟩
        rw [upd_other]
        · exact hm2
        · intro e3; subst e3
          have hd : es.toList[j].key ≠ es.toList[a].key := by
            rcases Nat.lt_or_ge j a with hlt | hge
            · exact hpw' j a hjl ha hlt
            · exact (hpw' a j ha hjl (by omega)).symm
          rw [hej, hk, hx, hq] at hd
          exact hd rfl
    · intro q u hu
      by_cases e3 : q = p
      · subst e3
        rw [upd_same] at hu
        cases hu
        refine ⟨{ e with key := .int .i64 (q : Int), val := v }, ?_, rfl, rfl⟩
        rw [hlist]
        exact List.mem_of_getElem? (i := j) (by rw [List.getElem?_set_self hjl])
      · rw [upd_other _ _ e3] at hu
        obtain ⟨x, hx, hx1, hx2⟩ := h2 q u hu
        refine ⟨x, ?_, hx1, hx2⟩
        obtain ⟨a, ha, hxa⟩ := List.getElem_of_mem hx
        rw [hlist]
        refine List.mem_of_getElem? (i := a) ?_
        rw [List.getElem?_set_ne, List.getElem?_eq_getElem ha, hxa]
        intro e4; subst e4
        rw [hej] at hxa; subst hxa
        rw [hk] at hx1
        have : (p : Int) = (q : Int) := by simpa using hx1
        omega

theorem MapAt.delete {w : World} {b : Nat} {mv : Nat → Option Value} (h : MapAt w b mv) {p : Nat} (hp : p ≤ 9223372036854775807) (ty : TypeId) :
    ∃ w', (Builtin.delete_ #[56, 3] ty #[.map (some b), .int .i64 (p : Int)]).run Try.prog w = .ok (.tuple #[]) w' ∧ MapAt w' b (upd mv p none) ∧ w.grownBy w' (some b) := by
  obtain ⟨es, clock, hb, hpw, h1, h2⟩ := h
  have hc := keyed3.check w es.isEmpty (keyOf3 hp)
  rcases MapAt.find (w := w) (b := b) hp h1 h2 with ⟨hr, hm, hne⟩ | ⟨j, e, hr, hj, hk, hm⟩
  · refine ⟨ChangeMaps.setBlock w b (.map es clock), ?_, ⟨_, _, ChangeMaps.heap_setBlock_same hb _, hpw, ?_, ?_⟩, grownBy_setBlock _ hb⟩
    · simp [Builtin.delete_, run_underlying Try.underlying56, MapKept.run_getObj_map hb, hc, hr, MapKept.run_setObj_map _ hb, Result.andThen, ChangeMaps.setBlock]
    · intro x hx
      obtain ⟨q, hq, hq2, hm2⟩ := h1 x hx
      refine ⟨q, hq, hq2, ?_⟩
      rw [upd_other]
      · exact hm2
      · intro e; subst e; exact hne x hx hq
    · intro q u hu
      by_cases e : q = p
      · subst e; rw [upd_same] at hu; cases hu
      · rw [upd_other _ _ e] at hu; exact h2 q u hu
  · have hjl : j < es.toList.length := (List.getElem?_eq_some_iff.1 hj).1
    have hej : es.toList[j] = e := (List.getElem?_eq_some_iff.1 hj).2
    have hpw' := List.pairwise_iff_getElem.1 hpw
    have hlist : (es.eraseIdxIfInBounds j).toList = es.toList.eraseIdx j := by
      have : j < es.size := by simpa using hjl
      simp [Array.eraseIdxIfInBounds, this]
    refine ⟨ChangeMaps.setBlock w b (.map (es.eraseIdxIfInBounds j) clock), ?_, ⟨_, _, ChangeMaps.heap_setBlock_same hb _, ?_, ?_, ?_⟩, grownBy_setBlock _ hb⟩
    · simp [Builtin.delete_, run_underlying Try.underlying56, MapKept.run_getObj_map hb, hc, hr, MapKept.run_setObj_map _ hb, Result.andThen, ChangeMaps.setBlock]
    · rw [hlist]
      exact hpw.sublist (List.eraseIdx_sublist _ _)
    · intro x hx
      rw [hlist, List.mem_eraseIdx_iff_getElem] at hx
      obtain ⟨a, ha, hne, hx⟩ := hx
      obtain ⟨q, hq, hq2, hm2⟩ := h1 x (by rw [← hx]; exact List.getElem_mem ha)
      refine ⟨q, hq, hq2, ?_⟩
      rw [upd_other]
      · exact hm2
      · intro e3; subst e3
        have hd : es.toList[j].key ≠ es.toList[a].key := by
          rcases Nat.lt_or_ge j a with hlt | hge
          · exact hpw' j a hjl ha hlt
          · exact (hpw' a j ha hjl (by omega)).symm
        rw [hej, hk, hx, hq] at hd
        exact hd rfl
    · intro q u hu
      by_cases e3 : q = p
      · subst e3; rw [upd_same] at hu; cases hu
      · rw [upd_other _ _ e3] at hu
        obtain ⟨x, hx, hx1, hx2⟩ := h2 q u hu
        refine ⟨x, ?_, hx1, hx2⟩
        obtain ⟨a, ha, hxa⟩ := List.getElem_of_mem hx
        rw [hlist, List.mem_eraseIdx_iff_getElem]
        refine ⟨a, ha, ?_, hxa⟩
        intro e4; subst e4
        rw [hej] at hxa; subst hxa
        rw [hk] at hx1
        have : (p : Int) = (q : Int) := by simpa using hx1
        omega

end Go.Proofs.Qxb6001561a
