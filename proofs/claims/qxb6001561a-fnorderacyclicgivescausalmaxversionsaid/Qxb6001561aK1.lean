import Derived.Test.Qxb6001561aK0
import Derived.Test.Qxb6001561aA1
import Derived.Deep.Matrix
namespace Go.Proofs.Qxb6001561a
set_option linter.unusedVariables false
set_option linter.unusedSimpArgs false
open Go.ChangeShapes Go.WideShapes Go.ChangeAt Go.RowKit

section
variable {H : Type} {enc : TypeId × Value → H} {W : World} {base : Nat} {a : Option Addr} {len cap : Nat} {d : DataW H} {pl : List MemPlace}

theorem in_rows {fuel : Nat} (h : DataW.trod enc Try.prog W base (fun _ => true) true fuel 25 (Value.slice a len cap).cells.toList = some (d, pl)) :
    len ≤ maxLen ∧ ∃ (L : Nat → Nat) (g : Nat → Nat → Int), RowsAt W (.slice a len cap) len L g ∧ ∀ r, r < len → L r ≤ maxLen := by
  rcases Go.Deep.open_int_rows Try.underlying25 Try.underlying22 Try.underlying3 (by kernel_rfl) (by kernel_rfl) h with ⟨hcs, _⟩ | ⟨x, l, c, A, L, C, Z, hcs, _, hl, hm, _, hr⟩
  · simp [Value.cells] at hcs
    obtain ⟨rfl, rfl, rfl⟩ := hcs
    exact ⟨Nat.zero_le _, fun _ => 0, fun _ _ => 0, RowsAt.nil _ _ _, fun r hr => absurd hr (Nat.not_lt_zero r)⟩
  · simp [Value.cells] at hcs
    obtain ⟨rfl, rfl, rfl⟩ := hcs
    refine ⟨Nat.le_trans hl hm, L, fun r j => (Z r).getD j 0, ⟨A, C, slAt_in (fun i hi => (hr i (by omega)).1), fun r hrl => ?_⟩, fun r hrl => ?_⟩
    · obtain ⟨_, h1, h2, h3, _, h5, h6⟩ := hr r (by omega)
      cases hA : A r with
      | none =>
        have h0 : L r = 0 := by have := h5 hA; omega
        rw [h0]
        exact ⟨none, C r, rfl, fun h => absurd h (Nat.lt_irrefl 0)⟩
      | some a' => exact slAt_in (fun i hi => (h6 a' hA).2 i (by omega))
    · obtain ⟨_, h1, h2, _⟩ := hr r (by omega)
      exact Nat.le_trans h1 h2
end
end Go.Proofs.Qxb6001561a
