import Derived.Test.Qxb6001561aW
import Derived.Test.Qxb6001561aP0
namespace Go.Proofs.Qxb6001561a
set_option linter.unusedVariables false
set_option linter.unusedSimpArgs false
open Go.RowKit

/-- v is a slice of m slices of ints; row r has L r of them; element j of row r is g r j. -/
def RowsAt (w : World) (v : Value) (m : Nat) (L : Nat → Nat) (g : Nat → Nat → Int) : Prop :=
  ∃ A C : Nat → _, SlAt w v m (fun r => .slice (A r) (L r) (C r)) ∧ ∀ r, r < m → SlAt w (.slice (A r) (L r) (C r)) (L r) (fun j => .int .i64 (g r j))

theorem RowsAt.nil (w : World) (L : Nat → Nat) (g : Nat → Nat → Int) : RowsAt w (.slice none 0 0) 0 L g :=
  ⟨fun _ => none, fun _ => 0, SlAt.nil _ _, fun r h => absurd h (Nat.not_lt_zero r)⟩

theorem RowsAt.below {w w' : World} {v : Value} {m : Nat} {L : Nat → Nat} {g : Nat → Nat → Int} (h : RowsAt w v m L g) (hb : Below w.heap.size w w') : RowsAt w' v m L g := by
  obtain ⟨A, C, h1, h2⟩ := h
  exact ⟨A, C, h1.below hb, fun r hr => (h2 r hr).below hb⟩

set_option maxHeartbeats 400000 in
theorem bytes19 (a0 a1 a2 : Option Addr) (n0 n1 n2 c0 c1 c2 : Nat) (h0 : n0 ≤ maxLen) (h1 : n1 ≤ maxLen) (h2 : n2 ≤ maxLen) (w : World) {R : Ending → World → Prop}
    (hR : ∀ b, R (.returned (.bool b)) w) : Calls Try.prog 19 #[.slice a0 n0 c0, .slice a1 n1 c1, .slice a2 n2 c2] w R := by
  unfold maxLen at h0 h1 h2
  have HR : Hid _ := hR
  clear hR
  go_enter Try.func19, Try.ntmps19
  go_wp2
  all_goals (exact HR.out _)

/-- What zzSizeOK_hb1 vouches for. -/
def SizeOK (n0 n1 n2 m : Nat) (L : Nat → Nat) : Prop := 8 * n0 + n1 + 8 * n2 + 24 * m + 8 * sumL L m ≤ 1048576

set_option maxHeartbeats 1000000 in
theorem size7 (a0 a1 a2 : Option Addr) (n0 n1 n2 c0 c1 c2 : Nat) (v3 : Value) (m : Nat) (L : Nat → Nat) (g : Nat → Nat → Int) (h0 : n0 ≤ maxLen) (h1 : n1 ≤ maxLen) (h2 : n2 ≤ maxLen) (h3 : m ≤ maxLen)
    (hL : ∀ r, r < m → L r ≤ maxLen) (w : World) (hsrc : RowsAt w v3 m L g) {R : Ending → World → Prop}
    (hR : ∀ b, (b = true → SizeOK n0 n1 n2 m L) → R (.returned (.bool b)) w) : Calls Try.prog 7 #[.slice a0 n0 c0, .slice a1 n1 c1, .slice a2 n2 c2, v3] w R := by
  unfold maxLen at h0 h1 h2 h3 hL
  have HR : Hid _ := hR
  clear hR
  obtain ⟨A, C, ⟨ao, cap, rfl, hc⟩, _⟩ := hsrc
  by_cases g0 : (1048576 : Int) < n0
  · go_enter Try.func7, Try.ntmps7
    go_wp2
    exact HR.out false (fun h => by cases h)
  by_cases g1 : (1048576 : Int) < n1
  · go_enter Try.func7, Try.ntmps7
    go_wp2
    exact HR.out false (fun h => by cases h)
  by_cases g2 : (1048576 : Int) < n2
  · go_enter Try.func7, Try.ntmps7
    go_wp2
    exact HR.out false (fun h => by cases h)
  by_cases g3 : (1048576 : Int) < m
  · go_enter Try.func7, Try.ntmps7
    go_wp2
    exact HR.out false (fun h => by cases h)
  by_cases g4 : (1048576 : Int) < 8 * n0 + n1 + 8 * n2 + 24 * m
  · go_enter Try.func7, Try.ntmps7
    go_wp2
    exact HR.out false (fun h => by cases h)
  go_enter Try.func7, Try.ntmps7
  go_wp2
  go_loop [9, 10] (fun t i => ∃ k : Nat, k ≤ m ∧ i = .int .i64 k ∧ ∃ T : Nat, t = .int .i64 T ∧ T = 8 * n0 + n1 + 8 * n2 + 24 * m + 8 * sumL L k ∧ T ≤ 1048576) (fun _ i => m - (intOf i).toNat)
  case atStart => exact ⟨0, Nat.zero_le _, rfl, 8 * n0 + n1 + 8 * n2 + 24 * m, by go_num, by simp [sumL], by omega⟩
  case round =>
    obtain ⟨k, hk, rfl, T, rfl, hT, hTl⟩ := hrel
    have HT : Hid (T = 8 * n0 + n1 + 8 * n2 + 24 * m + 8 * sumL L k) := hT
    clear hT
    by_cases hlt : k < m
    · obtain ⟨b, off, hab, hcell⟩ := hc (by omega)
      subst hab
      have hcx := hcell k hlt
      have hLk := hL k hlt
      clear hc hcell hL
      go_wp2
      · exact HR.out false (fun h => by cases h)
      · exact HR.out false (fun h => by cases h)
      · go_round
        case rel => exact ⟨k + 1, by omega, by go_num, T + 8 * L k, by go_num, by have := HT.out; simp only [sumL]; omega, by omega⟩
        case measure => simp [intOf]; omega
    · have : k = m := by omega
      subst this
      go_wp2
      exact HR.out true (fun _ => by have := HT.out; unfold SizeOK; omega)
end Go.Proofs.Qxb6001561a
