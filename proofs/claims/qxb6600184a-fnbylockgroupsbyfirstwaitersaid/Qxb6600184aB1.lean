import Derived.Test.Qxb6600184aB0
import Derived.BigRegion
namespace Go.Proofs.Qxb6600184a
set_option linter.unusedVariables false
set_option linter.unusedSimpArgs false
open Go.RowKit
attribute [local go_sem ↓] Go.wp_at_zero Go.wp_at_succ

/-- what slicing gives: of the cells [a, b) -/
theorem SlAt.part {w : World} {v : Value} {ao : Option Addr} {N C a b : Nat} {f : Nat → Value} (h : SlAt w (.slice ao N C) N f) (hab : a ≤ b) (hb : b ≤ N) {ao' : Option Addr} {C' : Nat}
    (hao : ∀ x, ao = some ⟨x, 0, none⟩ → a < b → ao' = some ⟨x, a, none⟩) (h0 : ∀ x y, ao = some ⟨x, y, none⟩ → y = 0) : SlAt w (.slice ao' (b - a) C') (b - a) (fun j => f (a + j)) := by
  obtain ⟨ao2, cap, he, hc⟩ := h
  cases he
  refine ⟨_, _, rfl, fun hpos => ?_⟩
  obtain ⟨x, off, rfl, hcell⟩ := hc (by omega)
  have := h0 _ _ rfl
  subst this
  refine ⟨x, a, hao x rfl (by omega), fun j hj => ?_⟩
  have := hcell (a + j) (by omega)
  rwa [Nat.zero_add] at this

set_option maxRecDepth 100000 in
set_option maxHeartbeats 1000000 in
theorem of33 (k gs n1 Cs N b0 a b : Nat) (vi : Value) (f : Nat → Int) (w : World) (hk : k + 1 < n1) (hn1 : n1 ≤ 1048576) (hab : a ≤ b) (hb : b ≤ N) (hvi : RowV w vi N b0 f)
    (ha : w.cell? ⟨gs, k, none⟩ = some (.int .i64 a)) (hb' : w.cell? ⟨gs, k + 1, none⟩ = some (.int .i64 b)) {R : Ending → World → Prop}
    (hR : ∀ ao' C' w', (0 < b - a → ao' = some ⟨b0, a, none⟩) → Fr (fun _ => False) w w' → R (.returned (.slice ao' (b - a) C')) w') :
    Calls Try.prog 33 #[.agg #[.slice (some ⟨gs, 0, none⟩) n1 Cs, vi], .int .i64 k] w R := by
  have HR : Hid _ := hR
  clear hR
  have hgs := World.block_lt_of_cell? w _ ha
  have hFr : ∀ o n, Hid (Fr (fun _ => False) w ((w.alloc o).drewN n)) := fun o n => (Fr.alloc w o).drewN n
  rcases hvi with ⟨rfl, rfl⟩ | ⟨Ci, hN, hCi, rfl, hrow⟩
  · have : b = 0 := by omega
    subst this
    have : a = 0 := by omega
    subst this
    go_enter Try.func33, Try.ntmps33
    go_wp2_with (fail)
    go_quiet (fail)
    go_wp2
    exact HR.out _ _ _ (fun h => absurd h (by decide)) (hFr _ _).out
  · clear hrow
    unfold maxLen at hCi
    by_cases e : Ci = a
    · subst e
      go_enter Try.func33, Try.ntmps33
      go_wp2_with (fail)
      go_quiet (fail)
      go_wp2
      exact HR.out _ _ _ (fun h => by omega) (hFr _ _).out
    · go_enter Try.func33, Try.ntmps33
      go_wp2_with (fail)
      go_quiet (fail)
      go_wp2
      exact HR.out _ _ _ (fun h => rfl) (hFr _ _).out

end Go.Proofs.Qxb6600184a
