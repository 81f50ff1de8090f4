import Derived.Test.Qxb6600184aW
namespace Go.Proofs.Qxb6600184a
set_option linter.unusedVariables false
set_option linter.unusedSimpArgs false
open Go.RowKit Go.Maps

/-- Block b is a map keyed by strings; key s holds mv s. -/
def MapS (w : World) (b : Nat) (mv : ByteArray → Option Value) : Prop :=
  ∃ es clock, w.heap[b]? = some (.map es clock) ∧ (∀ e ∈ es.toList, ∃ s : ByteArray, e.key = .string s ∧ s.size ≤ maxLen ∧ mv s = some e.val) ∧
    (∀ s v, mv s = some v → ∃ e ∈ es.toList, e.key = .string s ∧ e.val = v)

theorem keyOf9 {s : ByteArray} (hs : s.size ≤ maxLen) : keyOf Try.prog 9 (.string s) = some (.string s.data.toList) := WideMaps.keyOf_string_mk Try.underlying9 hs
theorem keyed9 : Keyed Try.prog 9 := string_keyed Try.underlying9

theorem MapS.of_block {w w' : World} {b : Nat} {mv : ByteArray → Option Value} (h : MapS w b mv) (e : w'.heap[b]? = w.heap[b]?) : MapS w' b mv := by
  obtain ⟨es, clock, hb, r⟩ := h
  exact ⟨es, clock, e.trans hb, r⟩
theorem MapS.lt {w : World} {b : Nat} {mv : ByteArray → Option Value} (h : MapS w b mv) : b < w.heap.size := by
  obtain ⟨es, clock, hb, r⟩ := h
  exact (Array.getElem?_eq_some_iff.1 hb).1
theorem MapS.fr {S : Nat → Prop} {w w' : World} {b : Nat} {mv : ByteArray → Option Value} (h : MapS w b mv) (hf : Fr S w w') (hn : ¬ S b) : MapS w' b mv := h.of_block (hf.block b h.lt hn)

theorem MapS.find {w : World} {mv : ByteArray → Option Value} {es : Array MapEntry} {s : ByteArray} (hs : s.size ≤ maxLen)
    (h1 : ∀ e ∈ es.toList, ∃ s : ByteArray, e.key = .string s ∧ s.size ≤ maxLen ∧ mv s = some e.val)
    (h2 : ∀ s v, mv s = some v → ∃ e ∈ es.toList, e.key = .string s ∧ e.val = v) :
    ((Instr.findKey 9 (.string s) es.toList).run Try.prog w = .ok none w ∧ mv s = none ∧ ∀ e ∈ es.toList, e.key ≠ .string s) ∨
    ∃ (j : Nat) (e : MapEntry), (Instr.findKey 9 (.string s) es.toList).run Try.prog w = .ok (some (j, e.val)) w ∧ mv s = some e.val := by
  have hkeys : ∀ e ∈ es.toList, ∃ l, keyOf Try.prog 9 e.key = some l := fun e he => by
    obtain ⟨q, hq, hq2, _⟩ := h1 e he
    exact ⟨_, by rw [hq]; exact keyOf9 hq2⟩
  rcases keyed9.find w (keyOf9 hs) es.toList hkeys with ⟨hr, hne⟩ | ⟨j, e, hr, hj, hk⟩
  · refine .inl ⟨hr, ?_, hne⟩
    cases hm : mv s with
    | none => rfl
    | some v =>
      obtain ⟨e, he, hk, _⟩ := h2 s v hm
      exact absurd hk (hne e he)
  · refine .inr ⟨j, e, hr, ?_⟩
    obtain ⟨q, hq, _, hm⟩ := h1 e (List.mem_of_getElem? hj)
    rw [hk] at hq
    have : s = q := by simpa using hq
    subst this; exact hm

theorem zero70 (w : World) : (zeroValue 70).run Try.prog w = .ok (.agg #[.int .i64 0, .int .i64 0]) w := by kernel_rfl

theorem MapS.lookup {w : World} {b : Nat} {mv : ByteArray → Option Value} (h : MapS w b mv) {s : ByteArray} (hs : s.size ≤ maxLen) :
    (Instr.lookup 48 (.map (some b)) (.string s) true).run Try.prog w = .ok (.tuple #[(mv s).getD (.agg #[.int .i64 0, .int .i64 0]), .bool (mv s).isSome]) w := by
  obtain ⟨es, clock, hb, h1, h2⟩ := h
  have hc := keyed9.check w es.isEmpty (keyOf9 hs)
  rcases MapS.find (w := w) hs h1 h2 with ⟨hr, hm, _⟩ | ⟨j, e, hr, hm⟩
  · simp [Instr.lookup, run_underlying Try.underlying48, MapKept.run_getObj_map hb, hc, hr, hm, zero70, Result.andThen]
  · simp [Instr.lookup, run_underlying Try.underlying48, MapKept.run_getObj_map hb, hc, hr, hm, Result.andThen]

theorem Fr.setBlock {w : World} {b : Nat} {es : Array MapEntry} {clock : Nat} (o' : Obj) (hb : w.heap[b]? = some (.map es clock)) : Fr (· = b) w (ChangeMaps.setBlock w b o') :=
  ⟨rfl, rfl, rfl, by simp [ChangeMaps.setBlock], fun i _ hi => ChangeMaps.heap_setBlock_other hb _ (fun e1 => hi e1)⟩

open Classical in
/-- a key that was not there -/
theorem MapS.insert {w : World} {b : Nat} {mv : ByteArray → Option Value} (h : MapS w b mv) {s : ByteArray} (hs : s.size ≤ maxLen) (hn : mv s = none) (v : Value) :
    ∃ w', (∀ n, (Instr.mapUpdate 48 (.map (some b)) (.string s) v).run Try.prog (w.drewN n) = .ok () (w'.drewN n)) ∧ MapS w' b (fun x => if x = s then some v else mv x) ∧ Fr (· = b) w w' := by
  obtain ⟨es, clock, hb, h1, h2⟩ := h
  rcases MapS.find (w := w) hs h1 h2 with ⟨hr, hm, hne⟩ | ⟨j, e, hr, hm⟩
  · refine ⟨ChangeMaps.setBlock w b (.map (es.push ⟨.string s, v, clock⟩) (clock + 1)), fun n => ?_, ⟨_, _, ChangeMaps.heap_setBlock_same hb _, ?_, ?_⟩, Fr.setBlock _ hb⟩
    · have hb' : (w.drewN n).heap[b]? = some (.map es clock) := hb
      have hc := keyed9.check (w.drewN n) false (keyOf9 hs)
      have hr' : (Instr.findKey 9 (.string s) es.toList).run Try.prog (w.drewN n) = .ok none (w.drewN n) := by
        rcases MapS.find (w := w.drewN n) hs h1 h2 with ⟨hr, _, _⟩ | ⟨j, e, _, hm2⟩
        · exact hr
        · rw [hm] at hm2; cases hm2
      simp [Instr.mapUpdate, run_underlying Try.underlying48, MapKept.run_getObj_map hb', hc, hr', MapKept.run_setObj_map _ hb', Result.andThen, ChangeMaps.setBlock]
      rfl
    · intro x hx
      rw [Array.toList_push, List.mem_append] at hx
      rcases hx with hx | hx
      · obtain ⟨q, hq, hq2, hm2⟩ := h1 x hx
        refine ⟨q, hq, hq2, ?_⟩
        show (if q = s then some v else mv q) = _
        rw [if_neg (fun e => hne x hx (by rw [hq, e]))]
        exact hm2
      · simp at hx; subst hx
        exact ⟨s, rfl, hs, if_pos rfl⟩
    · intro q u hu
      by_cases e : q = s
      · subst e
        replace hu : (if q = q then some v else mv q) = some u := hu
        rw [if_pos rfl] at hu
        cases hu
        exact ⟨⟨.string q, v, clock⟩, by simp, rfl, rfl⟩
      · replace hu : (if q = s then some v else mv q) = some u := hu
        rw [if_neg e] at hu
        obtain ⟨x, hx, hx2⟩ := h2 q u hu
        exact ⟨x, by simp [Array.mem_toList_iff.1 hx], hx2⟩
  · rw [hn] at hm; cases hm

open Classical in
/-- what the split's map holds when the names D have queues -/
noncomputable def mvD (D : List ByteArray) : ByteArray → Option Value := fun x => if x ∈ D then some (.agg #[.int .i64 1, .int .i64 (key D x)]) else none
theorem mvD_mem {D : List ByteArray} {x : ByteArray} (h : x ∈ D) : mvD D x = some (.agg #[.int .i64 1, .int .i64 (key D x)]) := if_pos h
theorem mvD_not {D : List ByteArray} {x : ByteArray} (h : x ∉ D) : mvD D x = none := if_neg h
open Classical in
theorem mvD_snoc {D : List ByteArray} {s : ByteArray} (h : s ∉ D) : (fun x => if x = s then some (.agg #[.int .i64 1, .int .i64 (D.length : Nat)]) else mvD D x) = mvD (D ++ [s]) := by
  funext x
  by_cases e : x = s
  · subst e
    rw [if_pos rfl, mvD_mem (by simp), key_new h]
  · rw [if_neg e]
    by_cases hx : x ∈ D
    · rw [mvD_mem hx, mvD_mem (by simp [hx]), key_append hx]
    · rw [mvD_not hx, mvD_not (by simp [hx, e])]
theorem MapS.made (w : World) : MapS (w.alloc (.map #[] 0)) w.heap.size (mvD []) :=
  ⟨#[], 0, Go.Deep.blk_alloc_new _ _, by simp, fun s v h => by rw [mvD_not (by simp)] at h; cases h⟩
end Go.Proofs.Qxb6600184a
