import Derived.Test.Qxb6600184aW
import Derived.ProofKit
import Derived.OpenShut
import Derived.ShutString
import Derived.ChangeOld
import Derived.Below
import Derived.SliceStrings
import Derived.Deep.Matrix
namespace Go.Proofs.Qxb6600184a
set_option linter.unusedVariables false
set_option linter.unusedSimpArgs false
open Go.ChangeShapes Go.WideShapes Go.ChangeAt Go.RowKit

theorem own : ownKnob Try.prog.godebug = none := by kernel_rfl
theorem laidOut : laidOutB Try.prog = true := by kernel_rfl

/-- what lies at an address that came in, as the walks read it -/
theorem slAt_in {w : World} {a : Addr} {len cap : Nat} {f : Nat → Value} (h : ∀ i, i < len → w.cell? (a.add i) = some (f i)) : SlAt w (.slice (some a) len cap) len f := by
  refine ⟨_, _, rfl, fun h0 => ?_⟩
  obtain ⟨b, off, spot⟩ := a
  have hspot : spot = none := by simpa [Addr.add] using World.cell?_spot (h 0 h0)
  subst hspot
  refine ⟨b, off, rfl, fun j hj => ?_⟩
  have := h j hj
  unfold Addr.add at this
  split at this
  · rename_i e; subst e; exact this
  · exact this

section
variable {H : Type} {enc : TypeId × Value → H} {W : World} {base : Nat} {a : Option Addr} {len cap : Nat} {d : DataW H} {pl : List MemPlace}

theorem in_ints {fuel : Nat} (h : DataW.trod enc Try.prog W base (fun _ => true) true fuel 22 (Value.slice a len cap).cells.toList = some (d, pl)) :
    len ≤ maxLen ∧ ∃ f : Nat → Int, SlAt W (.slice a len cap) len (fun j => .int .i64 (f j)) := by
  rcases open_ints Try.underlying22 Try.underlying3 (by kernel_rfl) h with ⟨hcs, _⟩ | ⟨x, l, c, zs, hcs, _, hl, hm, hz, _, hcell, hwz⟩
  · simp [Value.cells] at hcs
    obtain ⟨rfl, rfl, rfl⟩ := hcs
    exact ⟨Nat.zero_le _, fun _ => 0, SlAt.nil _ _⟩
  · simp [Value.cells] at hcs
    obtain ⟨rfl, rfl, rfl⟩ := hcs
    have hz' : zs.length = cap := by simpa using hz
    exact ⟨Nat.le_trans hl hm, fun j => zs.getD j 0, slAt_in (fun i hi => hcell i (by omega))⟩

theorem in_strings {fuel : Nat} (h : DataW.trod enc Try.prog W base (fun _ => true) true fuel 23 [.slice a len cap] = some (d, pl)) :
    len ≤ maxLen ∧ ∃ f : Nat → ByteArray, SlAt W (.slice a len cap) len (fun j => .string (f j)) ∧ ∀ j, j < len → (f j).size ≤ maxLen := by
  rcases open_strings Try.underlying23 Try.underlying9 (by kernel_rfl) h with ⟨hcs, _⟩ | ⟨x, l, c, ss, hcs, _, hl, hm, hz, _, hcell, hsz⟩
  · simp at hcs
    obtain ⟨rfl, rfl, rfl⟩ := hcs
    exact ⟨Nat.zero_le _, fun _ => ByteArray.empty, SlAt.nil _ _, fun j hj => absurd hj (Nat.not_lt_zero j)⟩
  · simp at hcs
    obtain ⟨rfl, rfl, rfl⟩ := hcs
    have hz' : ss.length = cap := by simpa using hz
    refine ⟨Nat.le_trans hl hm, fun j => ss.getD j ByteArray.empty, slAt_in (fun i hi => hcell i (by omega)), fun j hj => hsz _ ?_⟩
    show ss.getD j ByteArray.empty ∈ ss
    rw [List.getD_eq_getElem?_getD, List.getElem?_eq_getElem (by omega)]
    exact List.getElem_mem _

theorem in_string_rows {fuel : Nat} (h : DataW.trod enc Try.prog W base (fun _ => true) true fuel 24 (Value.slice a len cap).cells.toList = some (d, pl)) :
    len ≤ maxLen ∧ ∃ (L : Nat → Nat) (g : Nat → Nat → ByteArray), RowsS W (.slice a len cap) len L g ∧ (∀ r, r < len → L r ≤ maxLen) ∧ ∀ r, r < len → ∀ j, j < L r → (g r j).size ≤ maxLen := by
  rcases Go.Deep.open_slice1 Try.underlying24 (by kernel_rfl) h with ⟨hcs, _⟩ | ⟨x, l, c, m', n', V, D, Pl, hcs, _, hl, hm, hmm, _, hx⟩
  · simp [Value.cells] at hcs
    obtain ⟨rfl, rfl, rfl⟩ := hcs
    exact ⟨Nat.zero_le _, fun _ => 0, fun _ _ => ByteArray.empty, RowsS.nil _ _ _, fun r hr => absurd hr (Nat.not_lt_zero r), fun r hr => absurd hr (Nat.not_lt_zero r)⟩
  · simp [Value.cells] at hcs
    obtain ⟨rfl, rfl, rfl⟩ := hcs
    simp only [if_true] at hmm
    have each : ∀ r, r < len → ∃ y : Option Addr × Nat × Nat × (Nat → ByteArray), V r = .slice y.1 y.2.1 y.2.2.1 ∧ y.2.1 ≤ maxLen ∧ SlAt W (.slice y.1 y.2.1 y.2.2.1) y.2.1 (fun j => .string (y.2.2.2 j)) ∧ ∀ j, j < y.2.1 → (y.2.2.2 j).size ≤ maxLen := by
      intro r hr
      have hxr := (hx r (by omega)).2
      rcases open_strings Try.underlying23 Try.underlying9 (by kernel_rfl) hxr with ⟨hcs, _⟩ | ⟨x', l', c', ss, hcs, _⟩
      · have hv : V r = .slice none 0 0 := by simpa using hcs
        rw [hv] at hxr
        obtain ⟨p1, f, p2, p3⟩ := in_strings hxr
        exact ⟨(none, 0, 0, f), hv, p1, p2, p3⟩
      · have hv : V r = .slice (some x') l' c' := by simpa using hcs
        rw [hv] at hxr
        obtain ⟨p1, f, p2, p3⟩ := in_strings hxr
        exact ⟨(some x', l', c', f), hv, p1, p2, p3⟩
    obtain ⟨y, hy⟩ := Go.Deep.choose_lt each
    refine ⟨Nat.le_trans hl hm, fun r => (y r).2.1, fun r => (y r).2.2.2, ⟨fun r => (y r).1, fun r => (y r).2.2.1, slAt_in (fun i hi => ?_), fun r hr => (hy r hr).2.2.1⟩, fun r hr => (hy r hr).2.1, fun r hr => (hy r hr).2.2.2⟩
    rw [(hx i (by omega)).1, (hy i hi).1]
end
end Go.Proofs.Qxb6600184a
