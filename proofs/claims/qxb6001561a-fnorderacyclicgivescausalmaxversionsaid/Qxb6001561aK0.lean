import Derived.Test.Qxb6001561aW
import Derived.ProofKit
import Derived.OpenShut
import Derived.ShutString
import Derived.ChangeOld
import Derived.Below
import Derived.Deep.Grids
namespace Go.Proofs.Qxb6001561a
set_option linter.unusedVariables false
set_option linter.unusedSimpArgs false
open Go.ChangeShapes Go.WideShapes Go.ChangeAt Go.RowKit

theorem own : ownKnob Try.prog.godebug = none := by kernel_rfl
theorem laidOut : laidOutB Try.prog = true := by kernel_rfl

/-- what lies at an address that came in, as the walks read it -/
theorem slAt_in {w : World} {a : Addr} {len cap : Nat} {f : Nat → Value} (h : ∀ i, i < len → w.cell? (a.add i) = some (f i)) : SlAt w (.slice (some a) len cap) len f := by
  refine ⟨_, _, rfl, fun h0 => ?_⟩
  obtain ⟨b, off, spot⟩ := a
  have hspot : spot = none := by simpa [Addr.add] using World.cell?_spot (h 0 h0)
  subst hspot
  refine ⟨b, off, rfl, fun j hj => ?_⟩
  have := h j hj
  unfold Addr.add at this
  split at this
  · rename_i e; subst e; exact this
  · exact this

section
variable {H : Type} {enc : TypeId × Value → H} {W : World} {base : Nat} {a : Option Addr} {len cap : Nat} {d : DataW H} {pl : List MemPlace}

theorem in_ints {t e : TypeId} {k : IntKind} (ht : Try.prog.underlying t = some (.slice e)) (he : Try.prog.underlying e = some (.int k)) (hc : Try.prog.cellsOf e = 1)
    {fuel : Nat} (h : DataW.trod enc Try.prog W base (fun _ => true) true fuel t (Value.slice a len cap).cells.toList = some (d, pl)) :
    len ≤ maxLen ∧ ∃ f : Nat → Int, SlAt W (.slice a len cap) len (fun j => .int k (f j)) ∧ ∀ j, j < len → (Lit.int k (f j)).wf = true := by
  rcases open_ints ht he hc h with ⟨hcs, _⟩ | ⟨x, l, c, zs, hcs, _, hl, hm, hz, _, hcell, hwz⟩
  · simp [Value.cells] at hcs
    obtain ⟨rfl, rfl, rfl⟩ := hcs
    exact ⟨Nat.zero_le _, fun _ => 0, SlAt.nil _ _, fun j hj => absurd hj (Nat.not_lt_zero j)⟩
  · simp [Value.cells] at hcs
    obtain ⟨rfl, rfl, rfl⟩ := hcs
    have hz' : zs.length = cap := by simpa using hz
    refine ⟨Nat.le_trans hl hm, fun j => zs.getD j 0, slAt_in (fun i hi => hcell i (by omega)), fun j hj => hwz _ ?_⟩
    show zs.getD j 0 ∈ zs
    rw [List.getD_eq_getElem?_getD, List.getElem?_eq_getElem (by omega)]
    exact List.getElem_mem _

theorem in_bools {t e : TypeId} (ht : Try.prog.underlying t = some (.slice e)) (he : Try.prog.underlying e = some .bool) (hc : Try.prog.cellsOf e = 1)
    {fuel : Nat} (h : DataW.trod enc Try.prog W base (fun _ => true) true fuel t (Value.slice a len cap).cells.toList = some (d, pl)) :
    len ≤ maxLen ∧ ∃ f : Nat → Bool, SlAt W (.slice a len cap) len (fun j => .bool (f j)) := by
  rcases Go.Deep.open_bools ht he hc h with ⟨hcs, _⟩ | ⟨x, l, c, B, hcs, _, hl, hm, _, hcell⟩
  · simp [Value.cells] at hcs
    obtain ⟨rfl, rfl, rfl⟩ := hcs
    exact ⟨Nat.zero_le _, fun _ => false, SlAt.nil _ _⟩
  · simp [Value.cells] at hcs
    obtain ⟨rfl, rfl, rfl⟩ := hcs
    exact ⟨Nat.le_trans hl hm, B, slAt_in (fun i hi => hcell i (by omega))⟩
end
end Go.Proofs.Qxb6001561a
