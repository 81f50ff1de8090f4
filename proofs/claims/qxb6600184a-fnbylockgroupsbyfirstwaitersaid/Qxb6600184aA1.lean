import Derived.Test.Qxb6600184aW
namespace Go.Proofs.Qxb6600184a
set_option linter.unusedVariables false
set_option linter.unusedSimpArgs false
open Go.RowKit

set_option maxRecDepth 100000 in
set_option maxHeartbeats 2000000 in
theorem bytes8 (a0 a1 : Option Addr) (n0 n1 c0 c1 : Nat) (v2 v3 : Value) (n2 m : Nat) (wl : Nat → ByteArray) (L : Nat → Nat) (g : Nat → Nat → ByteArray) (h0 : n0 ≤ maxLen) (h1 : n1 ≤ maxLen) (h2 : n2 ≤ maxLen) (h3 : m ≤ maxLen)
    (hW : ∀ i, i < n2 → (wl i).size ≤ maxLen) (hL : ∀ r, r < m → L r ≤ maxLen) (hG : ∀ r, r < m → ∀ j, j < L r → (g r j).size ≤ maxLen) (w : World) (hwl : SlAt w v2 n2 (fun j => .string (wl j))) (hal : RowsS w v3 m L g) {R : Ending → World → Prop}
    (hR : ∀ b, R (.returned (.bool b)) w) : Calls Try.prog 8 #[.slice a0 n0 c0, .slice a1 n1 c1, v2, v3] w R := by
  unfold maxLen at h0 h1 h2 h3 hL hW hG
  have HR : Hid _ := hR
  clear hR
  obtain ⟨A, C, ⟨ao, cap, rfl, hc⟩, hrow⟩ := hal
  obtain ⟨ao2, cap2, rfl, hc2⟩ := hwl
  by_cases g0 : (1048576 : Int) < n0
  · go_enter Try.func8, Try.ntmps8
    go_wp2
    exact HR.out false
  by_cases g1 : (1048576 : Int) < n1
  · go_enter Try.func8, Try.ntmps8
    go_wp2
    all_goals (exact HR.out false)
  by_cases g2 : (1048576 : Int) < n2
  · go_enter Try.func8, Try.ntmps8
    go_wp2
    all_goals (exact HR.out false)
  by_cases g4 : (1048576 : Int) < (n0 : Int) + n1 + n2
  · go_enter Try.func8, Try.ntmps8
    go_wp2
    all_goals (exact HR.out false)
  go_enter Try.func8, Try.ntmps8
  go_wp2
  go_loop [9, 10] (fun t i => ∃ k : Nat, k ≤ n2 ∧ i = .int .i64 k ∧ ∃ T : Nat, t = .int .i64 T ∧ T ≤ 1048576) (fun _ i => n2 - (intOf i).toNat)
  case atStart => exact ⟨0, Nat.zero_le _, rfl, n0 + n1 + n2, by go_num, by omega⟩
  case round =>
    obtain ⟨k, hk, rfl, T, rfl, hTl⟩ := hrel
    by_cases hlt : k < n2
    · obtain ⟨b, off, hab, hcell⟩ := hc2 (by omega)
      subst hab
      have hcx := hcell k hlt
      have hLk := hW k hlt
      clear hc2 hcell hW hL hG hc hrow
      go_wp2
      · exact HR.out false
      · exact HR.out false
      · go_round
        case rel => exact ⟨k + 1, by omega, by go_num, T + (wl k).size, by go_num, by omega⟩
        case measure => simp [intOf]; omega
    · clear hc2 hW
      by_cases g5 : (1048576 : Int) < m
      · go_wp2
        exact HR.out false
      by_cases g6 : (1048576 : Int) < (T : Int) + m
      · go_wp2
        all_goals (exact HR.out false)
      go_wp2
      go_loop [9, 11] (fun t i => ∃ k : Nat, k ≤ m ∧ i = .int .i64 k ∧ ∃ T : Nat, t = .int .i64 T ∧ T ≤ 1048576) (fun _ i => m - (intOf i).toNat)
      case atStart => exact ⟨0, Nat.zero_le _, rfl, T + m, by go_num, by omega⟩
      case round =>
        clear hTl g6
        obtain ⟨q, hq, rfl, T2, rfl, hTl⟩ := hrel
        by_cases hlt2 : q < m
        · obtain ⟨b, off, hab, hcell⟩ := hc (by omega)
          subst hab
          have hcx := hcell q hlt2
          have hLq := hL q hlt2
          have hGq := hG q hlt2
          obtain ⟨a3, c3, he3, hc3⟩ := hrow q hlt2
          clear hc hcell hrow hL hG
          cases he3
          by_cases g7 : (1048576 : Int) < L q
          · clear hc3 hGq
            go_wp2
            exact HR.out false
          by_cases g8 : (1048576 : Int) < (T2 : Int) + L q
          · clear hc3 hGq
            go_wp2
            all_goals (exact HR.out false)
          go_wp2
          go_loop [9, 12] (fun t i => ∃ k : Nat, k ≤ L q ∧ i = .int .i64 k ∧ ∃ T : Nat, t = .int .i64 T ∧ T ≤ 1048576) (fun _ i => L q - (intOf i).toNat)
          case atStart => exact ⟨0, Nat.zero_le _, rfl, T2 + L q, by go_num, by omega⟩
          case round =>
            clear hTl g8
            obtain ⟨p, hp, rfl, T3, rfl, hTl⟩ := hrel
            by_cases hlt4 : p < L q
            · obtain ⟨b2, off2, hab2, hcell2⟩ := hc3 (by omega)
              have hcy := hcell2 p hlt4
              have hGp := hGq p hlt4
              clear hc3 hcell2 hGq
              rw [hab2] at hcx
              go_wp2
              · exact HR.out false
              · exact HR.out false
              · go_round
                case rel => exact ⟨p + 1, by omega, by go_num, T3 + (g q p).size, by go_num, by omega⟩
                case measure => simp [intOf]; omega
            · clear hc3 hGq
              go_wp2
              go_round
              case rel => exact ⟨q + 1, by omega, by go_num, T3, rfl, hTl⟩
              case measure => simp [intOf]; omega
        · go_wp2
          exact HR.out true

/-- What b1SplitBytes vouches for. -/
structure Fits (n0 n1 n2 m : Nat) (L : Nat → Nat) : Prop where
  l0 : n0 ≤ 4096
  l1 : n1 ≤ 4096
  l2 : n2 ≤ 4096
  lm : m ≤ 4096
  ls : sumL L m ≤ 4096

set_option maxRecDepth 100000 in
set_option maxHeartbeats 2000000 in
theorem size9 (a0 a1 : Option Addr) (n0 n1 c0 c1 : Nat) (v2 v3 : Value) (n2 m : Nat) (wl : Nat → ByteArray) (L : Nat → Nat) (g : Nat → Nat → ByteArray) (h0 : n0 ≤ maxLen) (h1 : n1 ≤ maxLen) (h2 : n2 ≤ maxLen) (h3 : m ≤ maxLen)
    (hW : ∀ i, i < n2 → (wl i).size ≤ maxLen) (hL : ∀ r, r < m → L r ≤ maxLen) (hG : ∀ r, r < m → ∀ j, j < L r → (g r j).size ≤ maxLen) (w : World) (hwl : SlAt w v2 n2 (fun j => .string (wl j))) (hal : RowsS w v3 m L g) {R : Ending → World → Prop}
    (hR : ∀ t : Nat, t ≤ 1048577 → (t ≤ 1048576 → Fits n0 n1 n2 m L) → R (.returned (.int .i64 t)) w) : Calls Try.prog 9 #[.slice a0 n0 c0, .slice a1 n1 c1, v2, v3] w R := by
  unfold maxLen at h0 h1 h2 h3 hL hW hG
  have HR : Hid _ := hR
  clear hR
  have over : ∀ {P : Prop}, ((1048577 : Nat) ≤ 1048576 → P) := fun h => absurd h (by decide)
  have HO : R (.returned (.int .i64 1048577)) w := HR.out 1048577 (by decide) over
  clear over
  obtain ⟨A, C, ⟨ao, cap, rfl, hc⟩, hrow⟩ := hal
  obtain ⟨ao2, cap2, rfl, hc2⟩ := hwl
  have HO' : Hid _ := HO
  clear HO
  by_cases g0 : (4096 : Int) < n0
  · go_enter Try.func9, Try.ntmps9
    go_wp2
    exact HO'.out
  by_cases g1 : (4096 : Int) < n1
  · go_enter Try.func9, Try.ntmps9
    go_wp2
    all_goals (exact HO'.out)
  by_cases g2 : (4096 : Int) < n2
  · go_enter Try.func9, Try.ntmps9
    go_wp2
    all_goals (exact HO'.out)
  by_cases g3 : (4096 : Int) < m
  · go_enter Try.func9, Try.ntmps9
    go_wp2
    all_goals (exact HO'.out)
  go_enter Try.func9, Try.ntmps9
  go_wp2
  go_loop [10, 11] (fun t i => ∃ k : Nat, k ≤ n2 ∧ i = .int .i64 k ∧ ∃ T : Nat, t = .int .i64 T ∧ T ≤ 1048576) (fun _ i => n2 - (intOf i).toNat)
  case atStart => exact ⟨0, Nat.zero_le _, rfl, 8 * n0 + 8 * n1 + 16 * n2 + 24 * m, by go_num, by omega⟩
  case round =>
    obtain ⟨k, hk, rfl, T, rfl, hTl⟩ := hrel
    by_cases hlt : k < n2
    · obtain ⟨b, off, hab, hcell⟩ := hc2 (by omega)
      subst hab
      have hcx := hcell k hlt
      have hLk := hW k hlt
      clear hc2 hcell hW hL hG hc hrow
      go_wp2
      · exact HO'.out
      · exact HO'.out
      · go_round
        case rel => exact ⟨k + 1, by omega, by go_num, T + (wl k).size, by go_num, by omega⟩
        case measure => simp [intOf]; omega
    · clear hc2 hW
      go_wp2
      go_loop [10, 12, 13] (fun t s i => ∃ k : Nat, k ≤ m ∧ i = .int .i64 k ∧ ∃ T S : Nat, t = .int .i64 T ∧ T ≤ 1048576 ∧ s = .int .i64 S ∧ S ≤ 4096 ∧ S = sumL L k) (fun _ _ i => m - (intOf i).toNat)
      case atStart => exact ⟨0, Nat.zero_le _, rfl, T, 0, rfl, hTl, rfl, by omega, rfl⟩
      case round =>
        clear hTl
        obtain ⟨q, hq, rfl, T2, S, rfl, hTl, rfl, hSl, hS⟩ := hrel
        have HS : Hid _ := hS
        clear hS
        by_cases hlt2 : q < m
        · obtain ⟨b, off, hab, hcell⟩ := hc (by omega)
          subst hab
          have hcx := hcell q hlt2
          have hLq := hL q hlt2
          have hGq := hG q hlt2
          obtain ⟨a3, c3, he3, hc3⟩ := hrow q hlt2
          clear hc hcell hrow hL hG
          cases he3
          generalize A q = aq at hcx hc3
          by_cases g7 : (4096 : Int) < L q
          · clear hc3 hGq
            go_wp2
            exact HO'.out
          by_cases g8 : (4096 : Int) < (S : Int) + L q
          · clear hc3 hGq
            go_wp2
            all_goals (exact HO'.out)
          by_cases g9 : (1048576 : Int) < (T2 : Int) + 16 * L q
          · clear hc3 hGq
            go_wp2
            all_goals (exact HO'.out)
          go_wp2
          go_loop [10, 15] (fun t i => ∃ k : Nat, k ≤ L q ∧ i = .int .i64 k ∧ ∃ T : Nat, t = .int .i64 T ∧ T ≤ 1048576) (fun _ i => L q - (intOf i).toNat)
          case atStart => exact ⟨0, Nat.zero_le _, rfl, T2 + 16 * L q, by go_num, by omega⟩
          case round =>
            clear hTl g9
            obtain ⟨p, hp, rfl, T3, rfl, hTl⟩ := hrel
            by_cases hlt4 : p < L q
            · obtain ⟨b2, off2, hab2, hcell2⟩ := hc3 (by omega)
              have hcy := hcell2 p hlt4
              have hGp := hGq p hlt4
              clear hc3 hcell2 hGq
              subst hab2
              go_wp2
              · exact HO'.out
              · exact HO'.out
              · go_round
                case rel => exact ⟨p + 1, by omega, by go_num, T3 + (g q p).size, by go_num, by omega⟩
                case measure => simp [intOf]; omega
            · clear hc3 hGq
              go_wp2
              go_round
              case rel => exact ⟨q + 1, by omega, by go_num, T3, S + L q, rfl, hTl, by go_num, by omega, by have := HS.out; simp only [sumL]; omega⟩
              case measure => simp [intOf]; omega
        · have : q = m := by omega
          subst this
          go_wp2
          exact HR.out T2 (by omega) (fun _ => ⟨by omega, by omega, by omega, by omega, by have := HS.out; omega⟩)
end Go.Proofs.Qxb6600184a
