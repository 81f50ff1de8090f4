import Derived.Test.Qxb6001561aM0
namespace Go.Proofs.Qxb6001561a
set_option linter.unusedVariables false
set_option linter.unusedSimpArgs false
open Go.RowKit Go.Maps

/-- Block b is a map[uint64]bool that holds true wherever it holds; it holds all of S. -/
def SetAt (w : World) (b : Nat) (S : Int → Prop) : Prop :=
  ∃ es clock, w.heap[b]? = some (.map es clock) ∧ (∀ e ∈ es.toList, ∃ x : Int, e.key = .int .u64 x ∧ (0 ≤ x ∧ x ≤ 18446744073709551615) ∧ e.val = .bool true) ∧ ∀ x, S x → ∃ e ∈ es.toList, e.key = .int .u64 x

theorem keyOf40 {x : Int} (hx : 0 ≤ x ∧ x ≤ 18446744073709551615) : keyOf Try.prog 40 (.int .u64 x) = some (.int .u64 x) :=
  keyOf_int_mk Try.underlying40 (WalkArith.wf_u64 hx)
theorem keyed40 : Keyed Try.prog 40 := int_keyed Try.underlying40

theorem SetAt.of_block {w w' : World} {b : Nat} {S : Int → Prop} (h : SetAt w b S) (e : w'.heap[b]? = w.heap[b]?) : SetAt w' b S := by
  obtain ⟨es, clock, hb, r⟩ := h
  exact ⟨es, clock, e.trans hb, r⟩
theorem SetAt.lt {w : World} {b : Nat} {S : Int → Prop} (h : SetAt w b S) : b < w.heap.size := by
  obtain ⟨es, clock, hb, r⟩ := h
  exact (Array.getElem?_eq_some_iff.1 hb).1
theorem SetAt.made (w : World) : SetAt (w.alloc (.map #[] 0)) w.heap.size (fun _ => False) :=
  ⟨#[], 0, Go.Deep.blk_alloc_new _ _, by simp, fun _ h => h.elim⟩
theorem SetAt.mono {w : World} {b : Nat} {S S' : Int → Prop} (h : SetAt w b S) (e : ∀ x, S' x → S x) : SetAt w b S' := by
  obtain ⟨es, clock, hb, h1, h2⟩ := h
  exact ⟨es, clock, hb, h1, fun x hx => h2 x (e x hx)⟩

theorem SetAt.find {w : World} {es : Array MapEntry} {x : Int} (hx : 0 ≤ x ∧ x ≤ 18446744073709551615) (h1 : ∀ e ∈ es.toList, ∃ x : Int, e.key = .int .u64 x ∧ (0 ≤ x ∧ x ≤ 18446744073709551615) ∧ e.val = .bool true) :
    ((Instr.findKey 40 (.int .u64 x) es.toList).run Try.prog w = .ok none w ∧ ∀ e ∈ es.toList, e.key ≠ .int .u64 x) ∨
    ∃ j e, (Instr.findKey 40 (.int .u64 x) es.toList).run Try.prog w = .ok (some (j, .bool true)) w ∧ es.toList[j]? = some e ∧ e.key = .int .u64 x := by
  have hkeys : ∀ e ∈ es.toList, ∃ l, keyOf Try.prog 40 e.key = some l := fun e he => by
    obtain ⟨q, hq, hq2, _⟩ := h1 e he
    exact ⟨_, by rw [hq]; exact keyOf40 hq2⟩
  rcases keyed40.find w (keyOf40 hx) es.toList hkeys with ⟨hr, hne⟩ | ⟨j, e, hr, hj, hk⟩
  · exact .inl ⟨hr, hne⟩
  · obtain ⟨_, _, _, hv⟩ := h1 e (List.mem_of_getElem? hj)
    rw [hv] at hr
    exact .inr ⟨j, e, hr, hj, hk⟩

theorem zero4 (w : World) : (zeroValue 4).run Try.prog w = .ok (.bool false) w := by kernel_rfl

theorem SetAt.lookup {w : World} {b : Nat} {S : Int → Prop} (h : SetAt w b S) {x : Int} (hx : 0 ≤ x ∧ x ≤ 18446744073709551615) (hS : S x) :
    (Instr.lookup 41 (.map (some b)) (.int .u64 x) false).run Try.prog w = .ok (.bool true) w := by
  obtain ⟨es, clock, hb, h1, h2⟩ := h
  have hc := keyed40.check w es.isEmpty (keyOf40 hx)
  rcases SetAt.find (w := w) hx h1 with ⟨hr, hne⟩ | ⟨j, e, hr, _, _⟩
  · obtain ⟨e, he, hk⟩ := h2 x hS
    exact absurd hk (hne e he)
  · simp [Instr.lookup, run_underlying Try.underlying41, MapKept.run_getObj_map hb, hc, hr, Result.andThen]

theorem SetAt.update {w : World} {b : Nat} {S : Int → Prop} (h : SetAt w b S) {x : Int} (hx : 0 ≤ x ∧ x ≤ 18446744073709551615) :
    ∃ w', (Instr.mapUpdate 41 (.map (some b)) (.int .u64 x) (.bool true)).run Try.prog w = .ok () w' ∧ SetAt w' b (fun y => S y ∨ y = x) ∧ w.grownBy w' (some b) := by
  obtain ⟨es, clock, hb, h1, h2⟩ := h
  have hc := keyed40.check w false (keyOf40 hx)
  rcases SetAt.find (w := w) hx h1 with ⟨hr, hne⟩ | ⟨j, e, hr, hj, hk⟩
  · refine ⟨ChangeMaps.setBlock w b (.map (es.push ⟨.int .u64 x, .bool true, clock⟩) (clock + 1)), ?_, ⟨_, _, ChangeMaps.heap_setBlock_same hb _, ?_, ?_⟩, grownBy_setBlock _ hb⟩
    · simp [Instr.mapUpdate, run_underlying Try.underlying41, MapKept.run_getObj_map hb, hc, hr, MapKept.run_setObj_map _ hb, Result.andThen, ChangeMaps.setBlock]
    · intro y hy
      rw [Array.toList_push, List.mem_append] at hy
      rcases hy with hy | hy
      · exact h1 y hy
      · simp at hy; subst hy
        exact ⟨x, rfl, hx, rfl⟩
    · rintro y (hy | rfl)
      · obtain ⟨e, he, hk⟩ := h2 y hy
        exact ⟨e, by simp [Array.mem_toList_iff.1 he], hk⟩
      · exact ⟨⟨.int .u64 y, .bool true, clock⟩, by simp, rfl⟩
  · have hj' : es[j]? = some e := by simpa using hj
    have hst := keyed40.stays w (keyOf40 hx)
    have hlist : (es.modify j (fun e' => { e' with key := .int .u64 x, val := .bool true })).toList = es.toList.set j { e with key := .int .u64 x, val := .bool true } := by
      rw [Array.toList_modify, ChangeMaps.modify_eq_set _ _ _ _ hj]
    have hjl : j < es.toList.length := (List.getElem?_eq_some_iff.1 hj).1
    have hej : es.toList[j] = e := (List.getElem?_eq_some_iff.1 hj).2
    refine ⟨ChangeMaps.setBlock w b (.map (es.modify j (fun e' => { e' with key := .int .u64 x, val := .bool true })) clock), ?_, ⟨_, _, ChangeMaps.heap_setBlock_same hb _, ?_, ?_⟩, grownBy_setBlock _ hb⟩
    · simp [Instr.mapUpdate, run_underlying Try.underlying41, MapKept.run_getObj_map hb, hc, hr, hj', hk, hst, MapKept.run_setObj_map _ hb, Result.andThen, ChangeMaps.setBlock]
    · intro y hy
      rw [hlist] at hy
      rcases List.mem_or_eq_of_mem_set hy with hy | rfl
      · exact h1 y hy
      · exact ⟨x, rfl, hx, rfl⟩
    · have hin : ∃ e' ∈ (es.modify j (fun e' => { e' with key := .int .u64 x, val := .bool true })).toList, e'.key = .int .u64 x := by
        refine ⟨{ e with key := .int .u64 x, val := .bool true }, ?_, rfl⟩
        rw [hlist]
        exact List.mem_of_getElem? (i := j) (by rw [List.getElem?_set_self hjl])
      rintro y (hy | rfl)
      · obtain ⟨e', he', hk'⟩ := h2 y hy
        obtain ⟨a, ha, hxa⟩ := List.getElem_of_mem he'
        by_cases e4 : j = a
        · subst e4
          rw [hej] at hxa; subst hxa
          rw [hk] at hk'
          have : x = y := by simpa using hk'
          subst this
          exact hin
        · refine ⟨e', ?_, hk'⟩
          rw [hlist]
          refine List.mem_of_getElem? (i := a) ?_
          rw [List.getElem?_set_ne e4, List.getElem?_eq_getElem ha, hxa]
      · exact hin
end Go.Proofs.Qxb6001561a
