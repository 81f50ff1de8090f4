import Derived.Test.Qxb6001561aA1
namespace Go.Proofs.Qxb6001561a
set_option linter.unusedVariables false
set_option linter.unusedSimpArgs false
open Go.RowKit

/-- What zzWellFormed_hb1 vouches for. -/
def WellF (n m : Nat) (f : Nat → Int) (L : Nat → Nat) (g : Nat → Nat → Int) : Prop :=
  (∀ i, i < n → 0 ≤ f i ∧ f i < n) ∧ ∀ r, r < m → r < n → ∀ j, j < L r → 0 ≤ g r j ∧ g r j < n

set_option maxHeartbeats 1000000 in
theorem well8 (v0 v1 : Value) (n m : Nat) (f : Nat → Int) (L : Nat → Nat) (g : Nat → Nat → Int) (hn : n ≤ 1048576) (hm : m ≤ 1048576) (hL : ∀ r, r < m → L r ≤ 1048576) (w : World)
    (h0 : SlAt w v0 n (fun j => .int .i64 (f j))) (hsrc : RowsAt w v1 m L g) {R : Ending → World → Prop}
    (hR : ∀ b, (b = true → WellF n m f L g) → R (.returned (.bool b)) w) : Calls Try.prog 8 #[v0, v1] w R := by
  have HR : Hid _ := hR
  clear hR
  obtain ⟨A, C, ⟨a1, c1, rfl, hc1⟩, hrow⟩ := hsrc
  obtain ⟨a0, c0, rfl, hc0⟩ := h0
  go_enter Try.func8, Try.ntmps8
  go_wp2
  go_loop [6] (fun i => ∃ k : Nat, k ≤ n ∧ i = .int .i64 k ∧ ∀ j, j < k → 0 ≤ f j ∧ f j < n) (fun i => n - (intOf i).toNat)
  case atStart => exact ⟨0, Nat.zero_le _, rfl, fun j h => absurd h (Nat.not_lt_zero j)⟩
  case round =>
    obtain ⟨k, hk, rfl, hin⟩ := hrel
    have HI : Hid _ := hin
    clear hin
    by_cases hlt : k < n
    · obtain ⟨b, off, hab, hcell⟩ := hc0 (by omega)
      subst hab
      have hcx := hcell k hlt
      clear hc0 hcell hc1 hrow hL
      by_cases g0 : f k < 0
      · go_wp2
        exact HR.out false (fun h => by cases h)
      · by_cases g1 : (n : Int) ≤ f k
        · go_wp2
          exact HR.out false (fun h => by cases h)
        · go_wp2
          go_round
          case rel =>
            refine ⟨k + 1, by omega, by go_num, fun j hj => ?_⟩
            by_cases e : j = k
            · subst e; omega
            · exact HI.out j (by omega)
          case measure => simp [intOf]; omega
    · have : k = n := by omega
      subst this
      clear hc0
      go_wp2
      go_loop [7] (fun i => ∃ q : Nat, q ≤ m ∧ q ≤ k ∧ i = .int .i64 q ∧ ∀ r, r < q → ∀ j, j < L r → 0 ≤ g r j ∧ g r j < k) (fun i => m - (intOf i).toNat)
      case atStart => exact ⟨0, Nat.zero_le _, Nat.zero_le _, rfl, fun j h => absurd h (Nat.not_lt_zero j)⟩
      case round =>
        obtain ⟨q, hq, hqk, rfl, hin2⟩ := hrel
        have HI2 : Hid _ := hin2
        clear hin2
        by_cases hlt2 : q < m
        · by_cases hlt3 : q < k
          · obtain ⟨b, off, hab, hcell⟩ := hc1 (by omega)
            subst hab
            have hcx := hcell q hlt2
            have hLq := hL q hlt2
            obtain ⟨a2, c2, he2, hc2⟩ := hrow q hlt2
            clear hc1 hcell hrow hL
            cases he2
            go_wp2
            go_loop [8] (fun i => ∃ p : Nat, p ≤ L q ∧ i = .int .i64 p ∧ ∀ j, j < p → 0 ≤ g q j ∧ g q j < k) (fun i => L q - (intOf i).toNat)
            case atStart => exact ⟨0, Nat.zero_le _, rfl, fun j h => absurd h (Nat.not_lt_zero j)⟩
            case round =>
              obtain ⟨p, hp, rfl, hin3⟩ := hrel
              have HI3 : Hid _ := hin3
              clear hin3
              by_cases hlt4 : p < L q
              · obtain ⟨b2, off2, hab2, hcell2⟩ := hc2 (by omega)
                have hcy := hcell2 p hlt4
                clear hc2 hcell2
                rw [hab2] at hcx
                by_cases g0 : g q p < 0
                · go_wp2
                  exact HR.out false (fun h => by cases h)
                · by_cases g1 : (k : Int) ≤ g q p
                  · go_wp2
                    exact HR.out false (fun h => by cases h)
                  · go_wp2
                    go_round
                    case rel =>
                      refine ⟨p + 1, by omega, by go_num, fun j hj => ?_⟩
                      by_cases e : j = p
                      · subst e; omega
                      · exact HI3.out j (by omega)
                    case measure => simp [intOf]; omega
              · have hpe : p = L q := by omega
                have HP : Hid (p = L q) := hpe
                clear hpe
                go_wp2
                go_round
                case rel =>
                  refine ⟨q + 1, by omega, by omega, by go_num, fun r hr j hj => ?_⟩
                  by_cases e : r = q
                  · subst e; exact HI3.out j (by rw [HP.out]; exact hj)
                  · exact HI2.out r (by omega) j hj
                case measure => simp [intOf]; omega
          · go_wp2
            exact HR.out true (fun _ => ⟨HI.out, fun r hr hrk j hj => HI2.out r (by omega) j hj⟩)
        · have hd : decide ((q : Int) < (m : Int)) = false := by simp; omega
          go_wp2
          exact HR.out true (fun _ => ⟨HI.out, fun r hr hrk j hj => HI2.out r (by omega) j hj⟩)
end Go.Proofs.Qxb6001561a
