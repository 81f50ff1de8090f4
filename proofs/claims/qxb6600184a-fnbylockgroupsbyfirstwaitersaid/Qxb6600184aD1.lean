import Derived.Test.Qxb6600184aD0
import Derived.Test.Qxb6600184aB2
namespace Go.Proofs.Qxb6600184a
set_option linter.unusedVariables false
set_option linter.unusedSimpArgs false
open Go.RowKit

theorem CNT.lay {w : World} {gs C K : Nat} {ks : Nat → Int} {N : Nat} (vv : Nat → Int) (h : CNT w gs C K ks N) (hK : K ≤ 65536) (hN : N ≤ 65536) {bl off : Nat} (ne : gs ≠ bl)
    (hcs : w.cell? ⟨bl, off, none⟩ = some (.slice (some ⟨gs, 0, none⟩) (K + 1) C)) (hci : w.cell? ⟨bl, off + 1, none⟩ = some (.slice none 0 0)) (hcf : w.cell? ⟨bl, off + 2, none⟩ = some (.slice none 0 0))
    (hff : ∀ j, w.frozen? ⟨bl, j, none⟩ = false) {R : Ending → World → Prop}
    (hR : ∀ vi vf gi gf w', SLI w' gs C K vi vf gi gf ks vv N 0 → w.heap.size ≤ gi → w.heap.size ≤ gf → Fr (· = gs) ((w.setCell ⟨bl, off + 1, none⟩ vi).setCell ⟨bl, off + 2, none⟩ vf) w' → R (.returned (.tuple #[])) w') :
    Calls Try.prog 31 #[.pointer (some ⟨bl, off, none⟩)] w R := by
  obtain ⟨hC, f, h1, h2, h3⟩ := h
  have hgs := h1.lt
  refine layOut31 bl off gs K C N ks f hK hN hC w ne hcs hci hcf hff h1 h2 h3 ?_
  intro vi vf gi gf f' w' p1 p2 p3 p4 p5 p6 p7 p8
  exact hR vi vf gi gf w' ⟨hC, ⟨f', p1, p2⟩, ⟨_, p3, fun i hi => absurd hi (Nat.not_lt_zero i)⟩, ⟨_, p4, fun k _ => rfl⟩, p7, by omega, by omega⟩ p5 p6 p8
end Go.Proofs.Qxb6600184a
