import Derived.Test.Qxb6001561aA4
import Derived.Test.Qxb6001561aB0
namespace Go.Proofs.Qxb6001561a
set_option linter.unusedVariables false
set_option linter.unusedSimpArgs false
open Go.RowKit

theorem rowIs_ne_int {w : World} {B m : Nat} {t : TypeId} {f : Nat → Value} (h : w.rowIs B t m f) (hf : ∀ j, j < m → ∀ k x, f j ≠ .int k x) {b o : Nat} {k : IntKind} {x : Int} (hc : w.cell? ⟨b, o, none⟩ = some (.int k x)) : b ≠ B := by
  intro e
  subst e
  obtain ⟨cur, hb, hs, hv⟩ := h
  rw [cell_of_row w b o cur t _ hb] at hc
  have hlt : o < m := by
    rcases Nat.lt_or_ge o cur.size with h1 | h1
    · omega
    · rw [Array.getElem?_eq_none h1] at hc; cases hc
  have := hv o hlt
  rw [hc] at this
  exact hf o hlt k x (by simpa using this.symm)

theorem cell_setCell_other {w : World} {b o B i : Nat} {v u : Value} (hc : w.cell? ⟨b, o, none⟩ = some u) (hne : b ≠ B) : (w.setCell ⟨B, i, none⟩ v).cell? ⟨b, o, none⟩ = some u := by
  have hlt := World.block_lt_of_cell? w _ hc
  rw [World.cell?_of_block (w := w) ((grownBy_setCell w ⟨B, i, none⟩ v).block b hlt (by simpa using hne))]
  exact hc

theorem SlAt.setRow {w : World} {B m : Nat} {t : TypeId} {f : Nat → Value} (h : w.rowIs B t m f) (hf : ∀ j, j < m → ∀ k x, f j ≠ .int k x) {v : Value} {n : Nat} {k : IntKind} {g : Nat → Int} (hs : SlAt w v n (fun j => .int k (g j))) (i : Nat) (u : Value) :
    SlAt (w.setCell ⟨B, i, none⟩ u) v n (fun j => .int k (g j)) := by
  obtain ⟨ao, cap, rfl, hc⟩ := hs
  refine ⟨ao, cap, rfl, fun h0 => ?_⟩
  obtain ⟨b, off, rfl, hcell⟩ := hc h0
  exact ⟨b, off, rfl, fun j hj => cell_setCell_other (hcell j hj) (rowIs_ne_int h hf (hcell j hj))⟩

theorem rowsV_ne (A : Nat → Option Addr) (L C : Nat → Nat) (k m : Nat) : ∀ j, j < m → ∀ k' x, (fun j => if j < k then Value.slice (A j) (L j) (C j) else .slice none 0 0) j ≠ .int k' x := by
  intro j _ k' x e
  simp only at e
  split at e <;> cases e

theorem clone9d (v : Value) (n : Nat) (f : Nat → Int) (w : World) (hn : n ≤ 1048576) (h : SlAt w v n (fun j => .int .i64 (f j))) {R : Ending → World → Prop}
    (hR : ∀ A C w', SlAt w' (.slice A n C) n (fun j => .int .i64 (f j)) → Below w.heap.size w w' → R (.returned (.slice A n C)) w') : Calls Try.prog 9 #[v] w R :=
  (clone9 v n f w hn h).mono fun e w' ⟨v', he, h1, h2⟩ => by
    subst he
    obtain ⟨A, C, rfl, hc⟩ := id h1
    exact hR A C w' h1 h2

set_option maxHeartbeats 1000000 in
theorem clone12 (v : Value) (m : Nat) (L : Nat → Nat) (g : Nat → Nat → Int) (w : World) (hm : m ≤ 1048576) (hL : ∀ r, r < m → L r ≤ 1048576) (h : RowsAt w v m L g) {R : Ending → World → Prop}
    (hR : ∀ v' w', RowsAt w' v' m L g → Below w.heap.size w w' → R (.returned v') w') : Calls Try.prog 12 #[v] w R := by
  have HR : Hid _ := hR
  clear hR
  obtain ⟨A, C, ⟨ao, cap, rfl, hc⟩, hrows⟩ := h
  by_cases hnil : ao = none
  · subst hnil
    have hn0 : m = 0 := by
      rcases Nat.eq_zero_or_pos m with h0 | h0
      · exact h0
      · obtain ⟨b, off, hb, _⟩ := hc h0; cases hb
    subst hn0
    have heq : ∀ w, (binOp .eql 25 (.slice none 0 cap) (.slice none 0 0)).run Try.prog w = .ok (.bool true) w := fun w => run_eql_slice_nil w 25 22 none 0 cap Try.underlying25
    clear hc
    go_enter Try.func12, Try.ntmps12
    go_wp2
    exact HR.out _ _ (RowsAt.nil _ _ _) (Below.refl _ _)
  · obtain ⟨a, rfl⟩ := Option.ne_none_iff_exists'.1 hnil
    have hmk := run_make_row' (P := Try.prog) 25 22 (.slice none 0 0) 24 Try.underlying25 Try.info22 rfl .i64 .i64 m (by omega) (by omega)
    have heq : ∀ w, (binOp .eql 25 (.slice (some a) m cap) (.slice none 0 0)).run Try.prog w = .ok (.bool false) w := fun w => run_eql_slice_nil w 25 22 (some a) m cap Try.underlying25
    go_enter Try.func12, Try.ntmps12
    go_wp2
    clear heq hmk
    go_loopg [4] m (fun g' i wr => ∃ (k : Nat) (A' : Nat → Option Addr) (C' : Nat → Nat), k ≤ m ∧ g' = m - k ∧ i = .int .i64 k ∧ Below w.heap.size w wr ∧ wr.rowIs w.heap.size 22 m (fun j => if j < k then .slice (A' j) (L j) (C' j) else .slice none 0 0) ∧
      ∀ j, j < k → SlAt wr (.slice (A' j) (L j) (C' j)) (L j) (fun u => .int .i64 (g j u)))
    case atStart =>
      exact ⟨0, fun _ => none, fun _ => 0, Nat.zero_le _, rfl, rfl, (Below.refl _ _).alloc (Nat.le_refl _) _, (World.rowIs_made _ _ _ _).congr (fun j _ => by simp), fun j hj => absurd hj (Nat.not_lt_zero j)⟩
    case round =>
      obtain ⟨k, A', C', hk, rfl, rfl, hbel, hrow, hsl⟩ := hrel
      by_cases hlt : k < m
      · obtain ⟨b, off, hab, hcell⟩ := hc (by omega)
        cases hab
        have hcx : wr.cell? ⟨b, off + k, none⟩ = some (.slice (A k) (L k) (C k)) := cell_below (B := 0) hbel (hcell k hlt)
        have hLk := hL k hlt
        have hin : SlAt wr (.slice (A k) (L k) (C k)) (L k) (fun u => .int .i64 (g k u)) := (hrows k hlt).below hbel
        have HC : Hid _ := hc
        clear hc hcell
        go_wp2_with (fail)
        refine clone9d _ (L k) (g k) wr hLk hin ?_
        intro Ak Ck w1 h1 hb1
        have hrow1 : w1.rowIs w.heap.size 22 m _ := hrow.of_block (hb1.block _ hrow.lt)
        have hdst := hrow1.cell hlt
        have hfr := hrow1.frozen k
        have hsl1 : ∀ j, j < k → SlAt w1 (.slice (A' j) (L j) (C' j)) (L j) (fun u => .int .i64 (g j u)) := fun j hj => (hsl j hj).below hb1
        have hbel1 : Below w.heap.size w w1 := hbel.trans (hb1.mono hbel.size)
        clear hsl hrow hin hcx hbel hb1
        go_wp2
        go_roundg (m - (k + 1))
        case measure => omega
        case rel =>
          refine ⟨k + 1, upd A' k Ak, upd C' k Ck, by omega, rfl, by go_num, hbel1.setCell (Nat.le_refl _) _, (hrow1.set k _).congr (fun j hj => ?_), fun j hj => ?_⟩
          · by_cases e : j = k
            · subst e; simp [upd_same]
            · simp only [if_neg e, upd_other _ _ e]
              by_cases h2 : j < k
              · rw [if_pos h2, if_pos (by omega)]
              · rw [if_neg h2, if_neg (by omega)]
          · by_cases e : j = k
            · subst e; rw [upd_same, upd_same]
              exact SlAt.setRow hrow1 (rowsV_ne A' L C' _ m) h1 _ _
            · rw [upd_other _ _ e, upd_other _ _ e]
              exact SlAt.setRow hrow1 (rowsV_ne A' L C' _ m) (hsl1 j (by omega)) _ _
      · have : k = m := by omega
        subst this
        go_wp2
        exact HR.out _ _ ⟨A', C', (SlAt.row hrow).congr (fun j hj => by rw [if_pos hj]), hsl⟩ hbel

theorem getD_mem2 {l : List Nat} {t : Nat} (ht : t < l.length) : l.getD t 0 ∈ l := by
  rw [List.getD_eq_getElem?_getD, List.getElem?_eq_getElem ht]; exact List.getElem_mem ht
theorem take_snoc2 {l : List Nat} {t : Nat} (h : t < l.length) : l.take (t + 1) = l.take t ++ [l.getD t 0] := by
  rw [List.take_succ_eq_append_getElem h, List.getD_eq_getElem?_getD, List.getElem?_eq_getElem h]; rfl

theorem take_mem_idx {l : List Nat} (hn : l.Nodup) {j : Nat} (hj : j < l.length) : l.getD j 0 ∉ l.take j ∧ l.idxOf (l.getD j 0) = j := by
  have he : l.getD j 0 = l[j] := by rw [List.getD_eq_getElem?_getD, List.getElem?_eq_getElem hj]; rfl
  refine ⟨fun hm => ?_, ?_⟩
  · obtain ⟨u, hu, e⟩ := List.getElem_of_mem hm
    have hu' : u < j := by simp at hu; omega
    rw [List.getElem_take] at e
    rw [he] at e
    exact absurd e (List.pairwise_iff_getElem.1 hn u j (by omega) hj hu')
  · rw [he]
    have h1 : l.idxOf l[j] < l.length := List.idxOf_lt_length_iff.2 (List.getElem_mem hj)
    have h2 : l[l.idxOf l[j]] = l[j] := List.getElem_idxOf h1
    have hp := List.pairwise_iff_getElem.1 hn
    rcases Nat.lt_trichotomy (l.idxOf l[j]) j with h3 | h3 | h3
    · exact absurd h2 (hp _ _ h1 hj h3)
    · exact h3
    · exact absurd h2.symm (hp _ _ hj h1 h3)

set_option maxHeartbeats 1000000 in
theorem positions15 (v : Value) (l : List Nat) (w : World) (hn : l.length ≤ 1048576) (hnd : l.Nodup) (hlt : ∀ i, i ∈ l → i < l.length) (h : SlAt w v l.length (fun t => .int .i64 (l.getD t 0 : Nat))) {R : Ending → World → Prop}
    (hR : ∀ b w', w'.rowIs b 3 l.length (fun i => .int .i64 (if i ∈ l then l.idxOf i else 0 : Nat)) → Below w.heap.size w w' → w.heap.size ≤ b → R (.returned (.tuple #[.slice (some ⟨b, 0, none⟩) l.length l.length, .bool true])) w') :
    Calls Try.prog 15 #[v, .int .i64 (l.length : Nat)] w R := by
  have HR : Hid _ := hR
  clear hR
  obtain ⟨ao, cap, rfl, hc⟩ := h
  obtain ⟨n, hnd'⟩ : ∃ n, n = l.length := ⟨_, rfl⟩
  have HN : Hid _ := hnd'
  rw [← hnd'] at hn hlt hc HR ⊢
  clear hnd'
  have mk1 := run_make_row' (P := Try.prog) 22 3 (.int .i64 0) 8 Try.underlying22 Try.info3 rfl .i64 .i64 n (by omega) (by omega)
  have mk2 := run_make_row' (P := Try.prog) 23 4 (.bool false) 1 Try.underlying23 Try.info4 rfl .i64 .i64 n (by omega) (by omega)
  go_enter Try.func15, Try.ntmps15
  go_wp2
  clear mk1 mk2
  go_loopg [8] n (fun g jv wr => ∃ j : Nat, j ≤ n ∧ g = n - j ∧ jv = .int .i64 j ∧ Below w.heap.size w wr ∧ wr.rowIs w.heap.size 3 n (fun i => .int .i64 (if i ∈ l.take j then l.idxOf i else 0 : Nat)) ∧ wr.rowIs (w.heap.size + 1) 4 n (fun i => .bool (decide (i ∈ l.take j))))
  case atStart =>
    refine ⟨0, Nat.zero_le _, rfl, rfl, ((Below.refl _ _).alloc (Nat.le_refl _) _).alloc (by simp) _, ?_, ?_⟩
    · refine ((World.rowIs_made w (.int .i64 0) n 3).of_block (Go.Deep.blk_alloc_lt _ _ _ (by simp))).congr (fun i _ => by simp)
    · have := World.rowIs_made (w.alloc (.cells (madeCells #[.int .i64 0] n) 3)) (.bool false) n 4
      simp only [Go.Deep.nblk_alloc] at this
      exact this.congr (fun i _ => by simp)
  case round =>
    obtain ⟨j, hj, rfl, rfl, hbel, hpos, hseen⟩ := hrel
    by_cases hjn : j < n
    · obtain ⟨b, off, hab, hcell⟩ := hc (by omega)
      subst hab
      have x1 := cell_below (B := 0) hbel (hcell j hjn)
      have hjl : j < l.length := by rw [← HN.out]; exact hjn
      obtain ⟨t1, t2⟩ := take_mem_idx hnd hjl
      have hin : l.getD j 0 < n := hlt _ (getD_mem2 hjl)
      have htk := take_snoc2 hjl
      obtain ⟨i, hi⟩ : ∃ i, i = l.getD j 0 := ⟨_, rfl⟩
      rw [← hi] at x1 t1 t2 hin htk
      have x2 := hseen.cell hin
      rw [decide_eq_false t1] at x2
      have x3 := hseen.frozen i
      have hp1 : (wr.setCell ⟨w.heap.size + 1, i, none⟩ (.bool true)).rowIs w.heap.size 3 n _ := hpos.of_block ((grownBy_setCell wr ⟨w.heap.size + 1, i, none⟩ (.bool true)).block _ hpos.lt (by simp))
      have x4 := hp1.cell hin
      have x5 := hp1.frozen i
      have hinI : (i : Int) < n := by omega
      have HTK : Hid _ := htk
      have HT2 : Hid _ := t2
      clear htk t2 hi hcell hc
      go_wp2
      go_roundg (n - (j + 1))
      case measure => omega
      case rel =>
        refine ⟨j + 1, by omega, rfl, by go_num, (hbel.setCell (by simp) _).setCell (Nat.le_refl _) _, (hp1.set i _).congr (fun u _ => ?_), ((hseen.set i (.bool true)).of_block ((grownBy_setCell _ ⟨w.heap.size, i, none⟩ _).block _ (by simpa using hseen.lt) (by simp))).congr (fun u _ => ?_)⟩
        · rw [HTK.out]
          by_cases e : u = i
          · subst e; simp [HT2.out]
          · simp [e]
        · rw [HTK.out]
          by_cases e : u = i
          · subst e; simp
          · simp [e]
    · have hje : j = l.length := by rw [← HN.out]; omega
      have htl : l.take j = l := List.take_of_length_le (by omega)
      rw [htl] at hpos
      clear htl hje
      go_wp2
      exact HR.out _ _ hpos hbel (Nat.le_refl _)
end Go.Proofs.Qxb6001561a
