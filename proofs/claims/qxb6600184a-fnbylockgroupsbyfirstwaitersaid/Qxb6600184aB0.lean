import Derived.Test.Qxb6600184aW
import Derived.Lib.AppendZerosOnto
import Derived.Lib.Walk
import Derived.Lib.SliceRun
import Derived.BigFrame
import Derived.Deep.RegionHeld3
import Derived.Deep.DrawnRows
namespace Go.Proofs.Qxb6600184a
set_option linter.unusedVariables false
set_option linter.unusedSimpArgs false
open Go.RowKit

theorem zero3 (w : World) : (zeroValue 3).run Try.prog w = .ok (.int .i64 0) w := by kernel_rfl

theorem rowIs_wipe {t : TypeId} {C : Nat} {z : Value} {g : Nat} : ∀ (n o : Nat) {w : World}, w.rowIs g t C (fun _ => z) → (w.setCells g o (List.replicate n z)).rowIs g t C (fun _ => z)
  | 0, o, w, h => h
  | n + 1, o, w, h => by
    show ((w.setCell ⟨g, o, none⟩ z).setCells g (o + 1) (List.replicate n z)).rowIs g t C (fun _ => z)
    exact rowIs_wipe n (o + 1) ((h.set o z).congr (fun j _ => by simp))
theorem Fr.setCells (b : Nat) : ∀ (vs : List Value) (o : Nat) (w : World), Fr (· = b) w (w.setCells b o vs)
  | [], _, w => Fr.refl _ w
  | v :: vs, o, w => (Fr.setCell w ⟨b, o, none⟩ v).trans (Fr.setCells b vs (o + 1) _)

theorem grow35_zero (w : World) {R : Ending → World → Prop} (hR : R (.returned (.slice none 0 0)) w) : Calls Try.prog 35 #[.slice none 0 0, .int .i64 0] w R := by
  have HR : Hid _ := hR
  clear hR
  go_enter Try.func35, Try.ntmps35
  go_wp2
  exact HR.out

set_option maxRecDepth 100000 in
set_option maxHeartbeats 1000000 in
theorem grow35 (n : Nat) (h0 : 0 < n) (hn : n ≤ 1048576) (w : World) {R : Ending → World → Prop}
    (hR : ∀ C w', n ≤ C → C ≤ maxLen → w'.rowIs w.heap.size 3 C (fun _ => .int .i64 0) → Fr (fun _ => False) w w' → R (.returned (.slice (some ⟨w.heap.size, 0, none⟩) 0 C)) w') :
    Calls Try.prog 35 #[.slice none 0 0, .int .i64 n] w R := by
  have HR : Hid _ := hR
  clear hR
  obtain ⟨i, hi, hz0, hz1, hz2⟩ := info_parts Try.info3
  have hold : (Builtin.firstCells i.size 0 (.slice none 0 0)).run Try.prog w.drew = .ok ([] : List Value).toArray w.drew := run_firstCells_none w.drew i.size 0 0 0
  have hrz : ∀ ty, (Builtin.append_ #[22, 3] ty #[.slice none 0 0, .int .i64 (n : Int)]).run Try.prog w =
      .ok (.slice (some ⟨w.heap.size, 0, none⟩) n (grownCap w n 0 3)) (w.drew.alloc (.cells (Builtin.zeroCells (Value.int .i64 0).cells n ++ Builtin.zeroCells (Value.int .i64 0).cells (grownCap w n 0 3 - n)) 3)) := fun ty => by
    have h := Lib.run_append_grow_zeros w 22 3 ty 3 i (.int .i64 0) .i64 .i64 Try.underlying22 Try.underlying3 hi hz0 none 0 0 [] hold n h0 (by omega) (by omega) (by omega) (by rw [hz2]; omega)
      (growslice_fits (by omega) (by rw [hz2]; omega))
    simpa using h
  have hge : n ≤ grownCap w n 0 3 := grownCap_ge w _ _ _
  have hle : grownCap w n 0 3 ≤ maxLen := grownCap_le_maxLen w n 0 3 (by unfold maxLen; omega)
  have hrow : (w.drew.alloc (.cells (Builtin.zeroCells (Value.int .i64 0).cells n ++ Builtin.zeroCells (Value.int .i64 0).cells (grownCap w n 0 3 - n)) 3)).rowIs w.heap.size 3 (grownCap w n 0 3) (fun _ => .int .i64 0) := by
    have hs : ∀ k, (Builtin.zeroCells (Value.int .i64 0).cells k).size = k := fun k => by simp [Builtin.zeroCells, Value.cells]
    have hsz : (Builtin.zeroCells (Value.int .i64 0).cells n ++ Builtin.zeroCells (Value.int .i64 0).cells (grownCap w n 0 3 - n)).size = grownCap w n 0 3 := by
      rw [Array.size_append, hs, hs]; omega
    have hg : ∀ k i, i < k → (Builtin.zeroCells (Value.int .i64 0).cells k)[i]? = some (.int .i64 0) := fun k i hi => by simp [Builtin.zeroCells, Value.cells, hi, Nat.mod_one]
    refine ⟨_, Go.Deep.blk_alloc_new _ _, hsz, fun i hi => ?_⟩
    rw [Array.getElem?_append]
    split
    · rename_i h; rw [hs] at h; exact hg _ _ h
    · rename_i h; rw [hs] at h ⊢; exact hg _ _ (by omega)
  have hfr : Fr (fun _ => False) w (w.drew.alloc (.cells (Builtin.zeroCells (Value.int .i64 0).cells n ++ Builtin.zeroCells (Value.int .i64 0).cells (grownCap w n 0 3 - n)) 3)) := ((Fr.refl _ w).drew).trans (Fr.alloc _ _)
  have HQ : Hid (R (.returned (.slice (some ⟨w.heap.size, 0, none⟩) 0 (grownCap w n 0 3))) (w.drew.alloc (.cells (Builtin.zeroCells (Value.int .i64 0).cells n ++ Builtin.zeroCells (Value.int .i64 0).cells (grownCap w n 0 3 - n)) 3))) := HR.out _ _ hge hle hrow hfr
  clear hold hrow hfr HR
  obtain ⟨G, hG⟩ : ∃ G, G = grownCap w n 0 3 := ⟨_, rfl⟩
  rw [← hG] at hrz hge hle HQ
  clear hG hi hz0 hz1 hz2
  unfold maxLen at hle
  go_enter Try.func35, Try.ntmps35
  go_wp2_with (at_builtin; refine Lib.wpList_append_run _ rfl _ _ _ _ rfl _ _ rfl rfl _ _ (hrz _) ?_)
  all_goals (exact HQ.out)

set_option maxRecDepth 100000 in
set_option maxHeartbeats 1000000 in
theorem reset29 (bl off n : Nat) (hn : n ≤ 65536) (w : World) (hc : w.cell? ⟨bl, off, none⟩ = some (.slice none 0 0)) (hf : w.frozen? ⟨bl, off, none⟩ = false) {R : Ending → World → Prop}
    (hR : ∀ C w', n + 1 ≤ C → C ≤ maxLen → w'.rowIs w.heap.size 3 C (fun _ => .int .i64 0) → Fr (fun _ => False) (w.setCell ⟨bl, off, none⟩ (.slice (some ⟨w.heap.size, 0, none⟩) (n + 1) C)) w' → R (.returned (.tuple #[])) w') :
    Calls Try.prog 29 #[.pointer (some ⟨bl, off, none⟩), .int .i64 n] w R := by
  have HR : Hid _ := hR
  clear hR
  have hbl := World.block_lt_of_cell? w _ hc
  go_enter Try.func29, Try.ntmps29
  go_wp2_with (fail)
  refine grow35 (n + 1) (by omega) (by omega) _ ?_
  intro C w1 hC hm hrow hfr
  have hc1 := hfr.cell (fun h => h) hc
  have hb1 := hfr.block bl hbl (fun h => h)
  have hf1 : w1.frozen? ⟨bl, off, none⟩ = false := (World.frozen?_of_block (a := ⟨bl, off, none⟩) hb1).trans hf
  have hm' := hm
  unfold maxLen at hm'
  have hne : w.heap.size ≠ bl := fun e => by rw [← e] at hbl; exact Nat.lt_irrefl _ hbl
  have hrow2 : (w1.setCell ⟨bl, off, none⟩ (.slice (some ⟨w.heap.size, 0, none⟩) (n + 1) C)).rowIs w.heap.size 3 C (fun _ => .int .i64 0) := hrow.setOther hne _
  have hcl : ∀ ty, (Builtin.clear_ #[22] ty #[.slice (some ⟨w.heap.size, 0, none⟩) (n + 1) C]).run Try.prog (w1.setCell ⟨bl, off, none⟩ (.slice (some ⟨w.heap.size, 0, none⟩) (n + 1) C)) = .ok (.tuple #[]) ((w1.setCell ⟨bl, off, none⟩ (.slice (some ⟨w.heap.size, 0, none⟩) (n + 1) C)).setCells w.heap.size 0 (List.replicate (n + 1) (.int .i64 0))) :=
    fun ty => Lib.run_clear_slice _ 22 3 ty (.int .i64 0) Try.underlying22 zero3 rfl rfl w.heap.size 0 (n + 1) C (by omega) (fun j hj => by rw [Nat.zero_add, hrow2.cell (by omega)]; rfl) (fun j hj => by rw [Nat.zero_add]; exact hrow2.frozen _)
  have HQ : Hid (R (.returned (.tuple #[])) ((w1.setCell ⟨bl, off, none⟩ (.slice (some ⟨w.heap.size, 0, none⟩) (n + 1) C)).setCells w.heap.size 0 (List.replicate (n + 1) (.int .i64 0)))) := by
    refine HR.out C _ hC hm (rowIs_wipe _ _ hrow2) ?_
    have h1 : Fr (fun _ => False) (w.setCell ⟨bl, off, none⟩ (.slice (some ⟨w.heap.size, 0, none⟩) (n + 1) C)) (w1.setCell ⟨bl, off, none⟩ (.slice (some ⟨w.heap.size, 0, none⟩) (n + 1) C)) :=
      ⟨hfr.os, hfr.tape, hfr.output, by simpa [World.setCell] using hfr.size, fun x hx _ => by
        have hx' : x < w.heap.size := by simpa [World.setCell] using hx
        have := hfr.block x hx' (fun h => h)
        by_cases e : x = bl
        · subst e; simp [World.setCell, Array.getElem?_modify, this]
        · rw [heap_setCell_other _ _ _ _ e, heap_setCell_other _ _ _ _ e, this]⟩
    exact h1.step (Fr.setCells _ _ _ _) (fun x hx => .inr (by subst hx; simp [World.setCell]))
  clear hfr hrow hrow2 HR hc hf hb1 hm
  go_wp2_with (simp only [hcl])
  go_end0
  exact HQ.out

set_option maxRecDepth 100000 in
set_option maxHeartbeats 1000000 in
theorem count30 (bl off k g n1 C : Nat) (x : Int) (hk : k + 1 < n1) (hn : n1 ≤ 1048576) (hx0 : 0 ≤ x) (hx : x ≤ 1048576) (w : World) (hc : w.cell? ⟨bl, off, none⟩ = some (.slice (some ⟨g, 0, none⟩) n1 C)) (hs : w.cell? ⟨g, k + 1, none⟩ = some (.int .i64 x)) (hf : w.frozen? ⟨g, k + 1, none⟩ = false) {R : Ending → World → Prop}
    (hR : R (.returned (.tuple #[])) (w.setCell ⟨g, k + 1, none⟩ (.int .i64 (x + 1)))) :
    Calls Try.prog 30 #[.pointer (some ⟨bl, off, none⟩), .int .i64 k] w R := by
  have HR : Hid _ := hR
  clear hR
  go_enter Try.func30, Try.ntmps30
  go_wp2
  go_end0
  exact HR.out

set_option maxRecDepth 100000 in
set_option maxHeartbeats 1000000 in
theorem put32 (bl off k gs gi gf n1 Cs N Ci n Cf a b : Nat) (x : Int) (hk : k < n) (hn1 : n1 = n + 1) (hn : n ≤ 1048576) (hN : N ≤ 1048576) (hab : a + b < N) (w : World)
    (hcs : w.cell? ⟨bl, off, none⟩ = some (.slice (some ⟨gs, 0, none⟩) n1 Cs)) (hci : w.cell? ⟨bl, off + 1, none⟩ = some (.slice (some ⟨gi, 0, none⟩) N Ci)) (hcf : w.cell? ⟨bl, off + 2, none⟩ = some (.slice (some ⟨gf, 0, none⟩) n Cf))
    (hs : w.cell? ⟨gs, k, none⟩ = some (.int .i64 a)) (y : Value) (hi : w.cell? ⟨gi, a + b, none⟩ = some y) (hif : w.frozen? ⟨gi, a + b, none⟩ = false) (hf : w.cell? ⟨gf, k, none⟩ = some (.int .i64 b)) (hff : w.frozen? ⟨gf, k, none⟩ = false)
    (ne1 : gi ≠ bl) (ne2 : gi ≠ gf) {R : Ending → World → Prop}
    (hR : ∀ nq, R (.returned (.int .i64 (a + b : Nat))) (((w.setCell ⟨gi, a + b, none⟩ (.int .i64 x)).setCell ⟨gf, k, none⟩ (.int .i64 (b + 1 : Nat))).drewN nq)) :
    Calls Try.prog 32 #[.pointer (some ⟨bl, off, none⟩), .int .i64 k, .int .i64 x] w R := by
  have HR : Hid _ := hR
  clear hR
  subst hn1
  go_enter Try.func32, Try.ntmps32
  go_wp2_with (fail)
  go_quiet (fail)
  have q1 : (w.setCell ⟨gi, a + b, none⟩ (.int .i64 x)).cell? ⟨bl, off + 2, none⟩ = some (.slice (some ⟨gf, 0, none⟩) n Cf) := (World.cell?_of_block (heap_setCell_other _ _ _ _ (Ne.symm ne1))).trans hcf
  have q2 : (w.setCell ⟨gi, a + b, none⟩ (.int .i64 x)).cell? ⟨gf, k, none⟩ = some (.int .i64 b) := (World.cell?_of_block (heap_setCell_other _ _ _ _ (Ne.symm ne2))).trans hf
  have q3 : (w.setCell ⟨gi, a + b, none⟩ (.int .i64 x)).frozen? ⟨gf, k, none⟩ = false := (World.frozen?_of_block (a := ⟨gf, k, none⟩) (heap_setCell_other _ _ _ _ (Ne.symm ne2))).trans hff
  go_wp2
  exact HR.out _
end Go.Proofs.Qxb6600184a
