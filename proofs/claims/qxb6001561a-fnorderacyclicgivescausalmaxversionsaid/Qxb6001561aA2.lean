import Derived.Test.Qxb6001561aW
namespace Go.Proofs.Qxb6001561a
set_option linter.unusedVariables false
set_option linter.unusedSimpArgs false
open Go.RowKit

theorem Try.info3 : (Try.prog.info? 3).map (fun i => (i.zero, i.size, i.bytes)) = some (some (.int .i64 0), 1, 8) := by kernel_rfl
theorem Try.info4 : (Try.prog.info? 4).map (fun i => (i.zero, i.size, i.bytes)) = some (some (.bool false), 1, 1) := by kernel_rfl
theorem Try.info40 : (Try.prog.info? 40).map (fun i => (i.zero, i.size, i.bytes)) = some (some (.int .u64 0), 1, 8) := by kernel_rfl
theorem Try.info22 : (Try.prog.info? 22).map (fun i => (i.zero, i.size, i.bytes)) = some (some (.slice none 0 0), 1, 24) := by kernel_rfl

set_option maxHeartbeats 400000 in
theorem clone9 (v : Value) (n : Nat) (f : Nat → Int) (w : World) (hn : n ≤ 1048576) (h : SlAt w v n (fun j => .int .i64 (f j))) :
    Calls Try.prog 9 #[v] w fun e w' => ∃ v', e = .returned v' ∧ SlAt w' v' n (fun j => .int .i64 (f j)) ∧ Below w.heap.size w w' := by
  obtain ⟨ao, cap, rfl, hc⟩ := h
  by_cases hnil : ao = none
  · subst hnil
    have hn0 : n = 0 := by
      rcases Nat.eq_zero_or_pos n with h0 | h0
      · exact h0
      · obtain ⟨b, off, hb, _⟩ := hc h0; cases hb
    subst hn0
    have heq : ∀ w, (binOp .eql 22 (.slice none 0 cap) (.slice none 0 0)).run Try.prog w = .ok (.bool true) w := fun w => run_eql_slice_nil w 22 3 none 0 cap Try.underlying22
    clear hc
    go_enter Try.func9, Try.ntmps9
    go_wp2
    go_ret
    exact ⟨_, rfl, SlAt.nil _ _, Below.refl _ _⟩
  · obtain ⟨a, rfl⟩ := Option.ne_none_iff_exists'.1 hnil
    have hmk := run_make_row' (P := Try.prog) 22 3 (.int .i64 0) 8 Try.underlying22 Try.info3 rfl .i64 .i64 n (by omega) (by omega)
    have heq : ∀ w, (binOp .eql 22 (.slice (some a) n cap) (.slice none 0 0)).run Try.prog w = .ok (.bool false) w := fun w => run_eql_slice_nil w 22 3 (some a) n cap Try.underlying22
    go_enter Try.func9, Try.ntmps9
    go_wp2
    clear heq hmk
    go_loopg [4] n (fun g i wr => ∃ k : Nat, k ≤ n ∧ g = n - k ∧ i = .int .i64 k ∧ Below w.heap.size w wr ∧ wr.rowIs w.heap.size 3 n (fun j => if j < k then .int .i64 (f j) else .int .i64 0))
    case atStart =>
      exact ⟨0, Nat.zero_le _, rfl, rfl, (Below.refl _ _).alloc (Nat.le_refl _) _, (World.rowIs_made _ _ _ _).congr (fun j _ => by simp)⟩
    case round =>
      obtain ⟨k, hk, rfl, rfl, hbel, hrow⟩ := hrel
      by_cases hlt : k < n
      · obtain ⟨b, off, hab, hcell⟩ := hc (by omega)
        cases hab
        have hcx : wr.cell? ⟨b, off + k, none⟩ = some (.int .i64 (f k)) := cell_below (B := 0) hbel (hcell k hlt)
        have hdst := hrow.cell hlt
        have hfr := hrow.frozen k
        go_wp2
        go_roundg (n - (k + 1))
        case measure => omega
        case rel =>
          refine ⟨k + 1, by omega, rfl, by go_num, hbel.setCell (Nat.le_refl _) _, (hrow.set k (.int .i64 (f k))).congr (fun j hj => ?_)⟩
          by_cases e : j = k
          · subst e; simp
          · simp only [if_neg e]
            by_cases h2 : j < k
            · rw [if_pos h2, if_pos (by omega)]
            · rw [if_neg h2, if_neg (by omega)]
      · have : k = n := by omega
        subst this
        go_wp2
        go_ret
        exact ⟨_, rfl, (SlAt.row hrow).congr (fun j hj => by rw [if_pos hj]), hbel⟩
set_option maxHeartbeats 400000 in
theorem clone10 (v : Value) (n : Nat) (f : Nat → Bool) (w : World) (hn : n ≤ 1048576) (h : SlAt w v n (fun j => .bool (f j))) :
    Calls Try.prog 10 #[v] w fun e w' => ∃ v', e = .returned v' ∧ SlAt w' v' n (fun j => .bool (f j)) ∧ Below w.heap.size w w' := by
  obtain ⟨ao, cap, rfl, hc⟩ := h
  by_cases hnil : ao = none
  · subst hnil
    have hn0 : n = 0 := by
      rcases Nat.eq_zero_or_pos n with h0 | h0
      · exact h0
      · obtain ⟨b, off, hb, _⟩ := hc h0; cases hb
    subst hn0
    have heq : ∀ w, (binOp .eql 23 (.slice none 0 cap) (.slice none 0 0)).run Try.prog w = .ok (.bool true) w := fun w => run_eql_slice_nil w 23 4 none 0 cap Try.underlying23
    clear hc
    go_enter Try.func10, Try.ntmps10
    go_wp2
    go_ret
    exact ⟨_, rfl, SlAt.nil _ _, Below.refl _ _⟩
  · obtain ⟨a, rfl⟩ := Option.ne_none_iff_exists'.1 hnil
    have hmk := run_make_row' (P := Try.prog) 23 4 (.bool false) 1 Try.underlying23 Try.info4 rfl .i64 .i64 n (by omega) (by omega)
    have heq : ∀ w, (binOp .eql 23 (.slice (some a) n cap) (.slice none 0 0)).run Try.prog w = .ok (.bool false) w := fun w => run_eql_slice_nil w 23 4 (some a) n cap Try.underlying23
    go_enter Try.func10, Try.ntmps10
    go_wp2
    clear heq hmk
    go_loopg [4] n (fun g i wr => ∃ k : Nat, k ≤ n ∧ g = n - k ∧ i = .int .i64 k ∧ Below w.heap.size w wr ∧ wr.rowIs w.heap.size 4 n (fun j => if j < k then .bool (f j) else .bool false))
    case atStart =>
      exact ⟨0, Nat.zero_le _, rfl, rfl, (Below.refl _ _).alloc (Nat.le_refl _) _, (World.rowIs_made _ _ _ _).congr (fun j _ => by simp)⟩
    case round =>
      obtain ⟨k, hk, rfl, rfl, hbel, hrow⟩ := hrel
      by_cases hlt : k < n
      · obtain ⟨b, off, hab, hcell⟩ := hc (by omega)
        cases hab
        have hcx : wr.cell? ⟨b, off + k, none⟩ = some (.bool (f k)) := cell_below (B := 0) hbel (hcell k hlt)
        have hdst := hrow.cell hlt
        have hfr := hrow.frozen k
        go_wp2
        go_roundg (n - (k + 1))
        case measure => omega
        case rel =>
          refine ⟨k + 1, by omega, rfl, by go_num, hbel.setCell (Nat.le_refl _) _, (hrow.set k (.bool (f k))).congr (fun j hj => ?_)⟩
          by_cases e : j = k
          · subst e; simp
          · simp only [if_neg e]
            by_cases h2 : j < k
            · rw [if_pos h2, if_pos (by omega)]
            · rw [if_neg h2, if_neg (by omega)]
      · have : k = n := by omega
        subst this
        go_wp2
        go_ret
        exact ⟨_, rfl, (SlAt.row hrow).congr (fun j hj => by rw [if_pos hj]), hbel⟩
set_option maxHeartbeats 400000 in
theorem clone11 (v : Value) (n : Nat) (f : Nat → Int) (w : World) (hn : n ≤ 1048576) (h : SlAt w v n (fun j => .int .u64 (f j))) :
    Calls Try.prog 11 #[v] w fun e w' => ∃ v', e = .returned v' ∧ SlAt w' v' n (fun j => .int .u64 (f j)) ∧ Below w.heap.size w w' := by
  obtain ⟨ao, cap, rfl, hc⟩ := h
  by_cases hnil : ao = none
  · subst hnil
    have hn0 : n = 0 := by
      rcases Nat.eq_zero_or_pos n with h0 | h0
      · exact h0
      · obtain ⟨b, off, hb, _⟩ := hc h0; cases hb
    subst hn0
    have heq : ∀ w, (binOp .eql 24 (.slice none 0 cap) (.slice none 0 0)).run Try.prog w = .ok (.bool true) w := fun w => run_eql_slice_nil w 24 40 none 0 cap Try.underlying24
    clear hc
    go_enter Try.func11, Try.ntmps11
    go_wp2
    go_ret
    exact ⟨_, rfl, SlAt.nil _ _, Below.refl _ _⟩
  · obtain ⟨a, rfl⟩ := Option.ne_none_iff_exists'.1 hnil
    have hmk := run_make_row' (P := Try.prog) 24 40 (.int .u64 0) 8 Try.underlying24 Try.info40 rfl .i64 .i64 n (by omega) (by omega)
    have heq : ∀ w, (binOp .eql 24 (.slice (some a) n cap) (.slice none 0 0)).run Try.prog w = .ok (.bool false) w := fun w => run_eql_slice_nil w 24 40 (some a) n cap Try.underlying24
    go_enter Try.func11, Try.ntmps11
    go_wp2
    clear heq hmk
    go_loopg [4] n (fun g i wr => ∃ k : Nat, k ≤ n ∧ g = n - k ∧ i = .int .i64 k ∧ Below w.heap.size w wr ∧ wr.rowIs w.heap.size 40 n (fun j => if j < k then .int .u64 (f j) else .int .u64 0))
    case atStart =>
      exact ⟨0, Nat.zero_le _, rfl, rfl, (Below.refl _ _).alloc (Nat.le_refl _) _, (World.rowIs_made _ _ _ _).congr (fun j _ => by simp)⟩
    case round =>
      obtain ⟨k, hk, rfl, rfl, hbel, hrow⟩ := hrel
      by_cases hlt : k < n
      · obtain ⟨b, off, hab, hcell⟩ := hc (by omega)
        cases hab
        have hcx : wr.cell? ⟨b, off + k, none⟩ = some (.int .u64 (f k)) := cell_below (B := 0) hbel (hcell k hlt)
        have hdst := hrow.cell hlt
        have hfr := hrow.frozen k
        go_wp2
        go_roundg (n - (k + 1))
        case measure => omega
        case rel =>
          refine ⟨k + 1, by omega, rfl, by go_num, hbel.setCell (Nat.le_refl _) _, (hrow.set k (.int .u64 (f k))).congr (fun j hj => ?_)⟩
          by_cases e : j = k
          · subst e; simp
          · simp only [if_neg e]
            by_cases h2 : j < k
            · rw [if_pos h2, if_pos (by omega)]
            · rw [if_neg h2, if_neg (by omega)]
      · have : k = n := by omega
        subst this
        go_wp2
        go_ret
        exact ⟨_, rfl, (SlAt.row hrow).congr (fun j hj => by rw [if_pos hj]), hbel⟩
end Go.Proofs.Qxb6001561a
