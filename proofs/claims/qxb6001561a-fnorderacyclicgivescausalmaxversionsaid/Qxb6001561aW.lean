import Derived.Test.Qxb6001561aRows
import Derived.WalkKit
import Derived.WalkSmall
import Derived.BigQuiet
import Derived.Deep.QuietTactic
import Derived.Deep.OwnRows
import Derived.Deep.LoopGhost
import Derived.Laws.Cover3
namespace Go.Proofs.Qxb6001561a
set_option linter.unusedVariables false
set_option linter.unusedSimpArgs false
open Go.RowKit

/-- The slice value v has n cells-of-one-cell elements; element j holds f j. -/
def SlAt (w : World) (v : Value) (n : Nat) (f : Nat → Value) : Prop :=
  ∃ ao cap, v = .slice ao n cap ∧ (0 < n → ∃ b off, ao = some ⟨b, off, none⟩ ∧ ∀ j, j < n → w.cell? ⟨b, off + j, none⟩ = some (f j))

theorem SlAt.nil (w : World) (f : Nat → Value) : SlAt w (.slice none 0 0) 0 f := ⟨none, 0, rfl, fun h => absurd h (Nat.lt_irrefl 0)⟩

theorem cell_below {B : Nat} {w w' : World} (h : Below w.heap.size w w') {a : Addr} {v : Value} (hc : w.cell? a = some v) : w'.cell? a = some v :=
  (h.cell (World.block_lt_of_cell? w a hc)).trans hc

theorem SlAt.below {w w' : World} {v : Value} {n : Nat} {f : Nat → Value} (h : SlAt w v n f) (hb : Below w.heap.size w w') : SlAt w' v n f := by
  obtain ⟨ao, cap, rfl, hc⟩ := h
  refine ⟨ao, cap, rfl, fun h0 => ?_⟩
  obtain ⟨b, off, rfl, hcell⟩ := hc h0
  exact ⟨b, off, rfl, fun j hj => cell_below (B := 0) hb (hcell j hj)⟩

theorem SlAt.congr {w : World} {v : Value} {n : Nat} {f g : Nat → Value} (h : SlAt w v n f) (e : ∀ j, j < n → f j = g j) : SlAt w v n g := by
  obtain ⟨ao, cap, rfl, hc⟩ := h
  refine ⟨ao, cap, rfl, fun h0 => ?_⟩
  obtain ⟨b, off, rfl, hcell⟩ := hc h0
  exact ⟨b, off, rfl, fun j hj => by rw [hcell j hj, e j hj]⟩

theorem SlAt.row {w : World} {b : Nat} {t : TypeId} {n c : Nat} {f : Nat → Value} (h : w.rowIs b t n f) : SlAt w (.slice (some ⟨b, 0, none⟩) n c) n f :=
  ⟨_, _, rfl, fun _ => ⟨b, 0, rfl, fun j hj => by rw [Nat.zero_add]; exact h.cell hj⟩⟩

/-- 's == nil' of a slice. -/
theorem run_eql_slice_nil {P : Program} (w : World) (t e : TypeId) (a : Option Addr) (l c : Nat) (h : P.underlying t = some (.slice e)) :
    (binOp .eql t (.slice a l c) (.slice none 0 0)).run P w = .ok (.bool a.isNone) w := by
  simp only [binOp]
  simp [run_equal_slice_nil w t e a l c h]

end Go.Proofs.Qxb6001561a
