import Derived.Test.Qxb6600184aW
namespace Go.Proofs.Qxb6600184a
set_option linter.unusedVariables false
set_option linter.unusedSimpArgs false
open Go.RowKit

set_option maxHeartbeats 400000 in
theorem copy10 (v : Value) (n : Nat) (f : Nat → Int) (w : World) (hn : n ≤ 1048576) (h : SlAt w v n (fun j => .int .i64 (f j))) {R : Ending → World → Prop}
    (hR : ∀ v' w', SlAt w' v' n (fun j => .int .i64 (f j)) → (∀ g, v'.ownBlock = some g → w.heap.size ≤ g) → Below w.heap.size w w' → R (.returned v') w') : Calls Try.prog 10 #[v] w R := by
  have HR : Hid _ := hR
  clear hR
  obtain ⟨ao, cap, rfl, hc⟩ := h
  by_cases hnil : ao = none
  · subst hnil
    have hn0 : n = 0 := by
      rcases Nat.eq_zero_or_pos n with h0 | h0
      · exact h0
      · obtain ⟨b, off, hb, _⟩ := hc h0; cases hb
    subst hn0
    have heq : ∀ w, (binOp .eql 22 (.slice none 0 cap) (.slice none 0 0)).run Try.prog w = .ok (.bool true) w := fun w => run_eql_slice_nil w 22 3 none 0 cap Try.underlying22
    clear hc
    go_enter Try.func10, Try.ntmps10
    go_wp2
    exact HR.out _ _ (SlAt.nil _ _) (fun g h => by cases h) (Below.refl _ _)
  · obtain ⟨a, rfl⟩ := Option.ne_none_iff_exists'.1 hnil
    have hmk := run_make_row' (P := Try.prog) 22 3 (.int .i64 0) 8 Try.underlying22 Try.info3 rfl .i64 .i64 n (by omega) (by omega)
    have heq : ∀ w, (binOp .eql 22 (.slice (some a) n cap) (.slice none 0 0)).run Try.prog w = .ok (.bool false) w := fun w => run_eql_slice_nil w 22 3 (some a) n cap Try.underlying22
    go_enter Try.func10, Try.ntmps10
    go_wp2
    clear heq hmk
    go_loopg [4] n (fun g i wr => ∃ k : Nat, k ≤ n ∧ g = n - k ∧ i = .int .i64 k ∧ Below w.heap.size w wr ∧ wr.rowIs w.heap.size 3 n (fun j => if j < k then .int .i64 (f j) else .int .i64 0))
    case atStart =>
      exact ⟨0, Nat.zero_le _, rfl, rfl, (Below.refl _ _).alloc (Nat.le_refl _) _, (World.rowIs_made _ _ _ _).congr (fun j _ => by simp)⟩
    case round =>
      obtain ⟨k, hk, rfl, rfl, hbel, hrow⟩ := hrel
      by_cases hlt : k < n
      · obtain ⟨b, off, hab, hcell⟩ := hc (by omega)
        cases hab
        have hcx : wr.cell? ⟨b, off + k, none⟩ = some (.int .i64 (f k)) := cell_below hbel (hcell k hlt)
        have hdst := hrow.cell hlt
        have hfr := hrow.frozen k
        go_wp2
        go_roundg (n - (k + 1))
        case measure => omega
        case rel =>
          refine ⟨k + 1, by omega, rfl, by go_num, hbel.setCell (Nat.le_refl _) _, (hrow.set k (.int .i64 (f k))).congr (fun j hj => ?_)⟩
          by_cases e : j = k
          · subst e; simp
          · simp only [if_neg e]
            by_cases h2 : j < k
            · rw [if_pos h2, if_pos (by omega)]
            · rw [if_neg h2, if_neg (by omega)]
      · have : k = n := by omega
        subst this
        go_wp2
        exact HR.out _ _ ((SlAt.row hrow).congr (fun j hj => by rw [if_pos hj])) (fun g h => by simp [Value.ownBlock] at h; omega) hbel

set_option maxHeartbeats 400000 in
theorem copy11 (v : Value) (n : Nat) (f : Nat → ByteArray) (w : World) (hn : n ≤ 1048576) (h : SlAt w v n (fun j => .string (f j))) {R : Ending → World → Prop}
    (hR : ∀ ao cap w', SlAt w' (.slice ao n cap) n (fun j => .string (f j)) → (∀ g, (Value.slice ao n cap).ownBlock = some g → w.heap.size ≤ g) → Below w.heap.size w w' → R (.returned (.slice ao n cap)) w') : Calls Try.prog 11 #[v] w R := by
  have HR : Hid _ := hR
  clear hR
  obtain ⟨ao, cap, rfl, hc⟩ := h
  by_cases hnil : ao = none
  · subst hnil
    have hn0 : n = 0 := by
      rcases Nat.eq_zero_or_pos n with h0 | h0
      · exact h0
      · obtain ⟨b, off, hb, _⟩ := hc h0; cases hb
    subst hn0
    have heq : ∀ w, (binOp .eql 23 (.slice none 0 cap) (.slice none 0 0)).run Try.prog w = .ok (.bool true) w := fun w => run_eql_slice_nil w 23 9 none 0 cap Try.underlying23
    clear hc
    go_enter Try.func11, Try.ntmps11
    go_wp2
    exact HR.out _ _ _ (SlAt.nil _ _) (fun g h => by cases h) (Below.refl _ _)
  · obtain ⟨a, rfl⟩ := Option.ne_none_iff_exists'.1 hnil
    have hmk := run_make_row' (P := Try.prog) 23 9 (.string ⟨#[]⟩) 16 Try.underlying23 Try.info9 rfl .i64 .i64 n (by omega) (by omega)
    have heq : ∀ w, (binOp .eql 23 (.slice (some a) n cap) (.slice none 0 0)).run Try.prog w = .ok (.bool false) w := fun w => run_eql_slice_nil w 23 9 (some a) n cap Try.underlying23
    go_enter Try.func11, Try.ntmps11
    go_wp2
    clear heq hmk
    go_loopg [4] n (fun g i wr => ∃ k : Nat, k ≤ n ∧ g = n - k ∧ i = .int .i64 k ∧ Below w.heap.size w wr ∧ wr.rowIs w.heap.size 9 n (fun j => if j < k then .string (f j) else .string ⟨#[]⟩))
    case atStart =>
      exact ⟨0, Nat.zero_le _, rfl, rfl, (Below.refl _ _).alloc (Nat.le_refl _) _, (World.rowIs_made _ _ _ _).congr (fun j _ => by simp)⟩
    case round =>
      obtain ⟨k, hk, rfl, rfl, hbel, hrow⟩ := hrel
      by_cases hlt : k < n
      · obtain ⟨b, off, hab, hcell⟩ := hc (by omega)
        cases hab
        have hcx : wr.cell? ⟨b, off + k, none⟩ = some (.string (f k)) := cell_below hbel (hcell k hlt)
        have hdst := hrow.cell hlt
        have hfr := hrow.frozen k
        go_wp2
        go_roundg (n - (k + 1))
        case measure => omega
        case rel =>
          refine ⟨k + 1, by omega, rfl, by go_num, hbel.setCell (Nat.le_refl _) _, (hrow.set k (.string (f k))).congr (fun j hj => ?_)⟩
          by_cases e : j = k
          · subst e; simp
          · simp only [if_neg e]
            by_cases h2 : j < k
            · rw [if_pos h2, if_pos (by omega)]
            · rw [if_neg h2, if_neg (by omega)]
      · have : k = n := by omega
        subst this
        go_wp2
        exact HR.out _ _ _ ((SlAt.row hrow).congr (fun j hj => by rw [if_pos hj])) (fun g h => by simp [Value.ownBlock] at h; omega) hbel

set_option maxHeartbeats 1000000 in
theorem copy12 (v : Value) (m : Nat) (L : Nat → Nat) (g : Nat → Nat → ByteArray) (w : World) (hm : m ≤ 1048576) (hL : ∀ r, r < m → L r ≤ 1048576) (h : RowsS w v m L g) {R : Ending → World → Prop}
    (hR : ∀ v' w', RowsS w' v' m L g → Below w.heap.size w w' → R (.returned v') w') : Calls Try.prog 12 #[v] w R := by
  have HR : Hid _ := hR
  clear hR
  obtain ⟨A, C, ⟨ao, cap, rfl, hc⟩, hrow⟩ := h
  by_cases hnil : ao = none
  · subst hnil
    have hn0 : m = 0 := by
      rcases Nat.eq_zero_or_pos m with h0 | h0
      · exact h0
      · obtain ⟨b, off, hb, _⟩ := hc h0; cases hb
    subst hn0
    have heq : ∀ w, (binOp .eql 24 (.slice none 0 cap) (.slice none 0 0)).run Try.prog w = .ok (.bool true) w := fun w => run_eql_slice_nil w 24 23 none 0 cap Try.underlying24
    clear hc hrow hL
    go_enter Try.func12, Try.ntmps12
    go_wp2
    exact HR.out _ _ (RowsS.nil _ _ _) (Below.refl _ _)
  · obtain ⟨a, rfl⟩ := Option.ne_none_iff_exists'.1 hnil
    have hmk := run_make_row' (P := Try.prog) 24 23 (.slice none 0 0) 24 Try.underlying24 Try.info23 rfl .i64 .i64 m (by omega) (by omega)
    have heq : ∀ w, (binOp .eql 24 (.slice (some a) m cap) (.slice none 0 0)).run Try.prog w = .ok (.bool false) w := fun w => run_eql_slice_nil w 24 23 (some a) m cap Try.underlying24
    go_enter Try.func12, Try.ntmps12
    go_wp2_with (fail)
    clear heq hmk
    go_loopg [4] m (fun gh i wr => ∃ k : Nat, k ≤ m ∧ gh = m - k ∧ i = .int .i64 k ∧ Below w.heap.size w wr ∧ w.heap.size < wr.heap.size ∧ ∃ A' C' : Nat → _, wr.rowIs w.heap.size 23 m (fun j => if j < k then .slice (A' j) (L j) (C' j) else .slice none 0 0) ∧
      ∀ r, r < k → SlAt wr (.slice (A' r) (L r) (C' r)) (L r) (fun j => .string (g r j)) ∧ ∀ b, (Value.slice (A' r) (L r) (C' r)).ownBlock = some b → 0 < L r → b ≠ w.heap.size)
    case atStart =>
      exact ⟨0, Nat.zero_le _, rfl, rfl, (Below.refl _ _).alloc (Nat.le_refl _) _, by simp, fun _ => none, fun _ => 0, (World.rowIs_made _ _ _ _).congr (fun j _ => by simp), fun r h => absurd h (Nat.not_lt_zero r)⟩
    case round =>
      obtain ⟨k, hk, rfl, rfl, hbel, hsz, A', C', hrow', hold⟩ := hrel
      by_cases hlt : k < m
      · obtain ⟨b, off, hab, hcell⟩ := hc (by omega)
        cases hab
        have hcx : wr.cell? ⟨b, off + k, none⟩ = some (.slice (A k) (L k) (C k)) := cell_below hbel (hcell k hlt)
        have hin : SlAt wr (.slice (A k) (L k) (C k)) (L k) (fun j => .string (g k j)) := (hrow k hlt).below hbel
        have hLk := hL k hlt
        clear hc hcell hrow hL
        go_wp2_with (fail)
        refine copy11 _ (L k) (g k) _ (by omega) hin ?_
        intro a2 c2 w2 hsl hown2 hb2
        have hrow2 : w2.rowIs w.heap.size 23 m (fun j => if j < k then .slice (A' j) (L j) (C' j) else .slice none 0 0) := (Fr.of_below (S := fun _ => False) hb2).rowIs hrow' (fun h => h)
        have hdst := hrow2.cell hlt
        have hfr := hrow2.frozen k
        have hold2 : Hid _ := hold
        have hbel2 : Below w.heap.size w w2 := hbel.trans ⟨hb2.os, hb2.tape, hb2.output, hb2.size, fun x hx => hb2.block x (by omega)⟩
        clear hin hcx hold
        go_wp2_with (fail)
        go_roundg (m - (k + 1))
        case measure => omega
        case rel =>
          refine ⟨k + 1, by omega, rfl, by go_num, hbel2.setCell (Nat.le_refl _) _, by simp [World.setCell]; have := hb2.size; omega, fun j => if j = k then a2 else A' j, fun j => if j = k then c2 else C' j, (hrow2.set k (.slice a2 (L k) c2)).congr (fun j hj => ?_), fun r hr => ?_⟩
          · by_cases e : j = k
            · subst e; simp
            · simp only [if_neg e]
              by_cases h2 : j < k
              · rw [if_pos h2, if_pos (by omega)]
              · rw [if_neg h2, if_neg (by omega)]
          · have hF := Fr.setCell w2 ⟨w.heap.size, k, none⟩ (.slice a2 (L k) c2)
            by_cases e : r = k
            · subst e
              simp only [if_pos rfl]
              exact ⟨hF.slAt hsl (fun g hg e => by have := hown2 g hg; simp at e; omega), fun b hb _ => by have := hown2 b hb; omega⟩
            · simp only [if_neg e]
              obtain ⟨o1, o2⟩ := hold2.out r (by omega)
              refine ⟨?_, o2⟩
              by_cases h0 : 0 < L r
              · exact hF.slAt (o1.below hb2) (fun g hg e => o2 g hg h0 e)
              · obtain ⟨ao', cap', he, _⟩ := o1
                exact ⟨ao', cap', he, fun h => absurd h h0⟩
      · have : k = m := by omega
        subst this
        go_wp2
        exact HR.out _ _ ⟨A', C', (SlAt.row hrow').congr (fun j hj => by rw [if_pos hj]), fun r hr => (hold r hr).1⟩ hbel
end Go.Proofs.Qxb6600184a
