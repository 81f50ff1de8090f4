import Derived.Test.Qxb6600184aE0
import Derived.Test.Qxb6600184aF0
import Derived.Test.Qxb6600184aA1
import Derived.Test.Qxb6600184aA2
namespace Go.Proofs.Qxb6600184a
set_option linter.unusedVariables false
set_option linter.unusedSimpArgs false
open Go.RowKit

theorem make_cap (n : Nat) (hn : n ≤ 1048576) (w : World) : (Instr.makeSlice 22 (.int .i64 0) (.int .i64 (n : Int))).run Try.prog w =
    .ok (.slice (some ⟨w.heap.size, 0, none⟩) 0 n) (w.alloc (.cells (madeCells #[.int .i64 0] n) 3)) := by
  obtain ⟨i, hi, hz0, hz1, hz2⟩ := info_parts Try.info3
  have hr := run_make (P := Try.prog) w 22 3 i _ Try.underlying22 hi hz0 .i64 .i64 0 n (by omega) (by omega) (by rw [hz2]; omega) (by omega)
  simpa [hz1, Value.cells] using hr

set_option maxHeartbeats 400000 in
theorem counts16 (w : World) {R : Ending → World → Prop} (hR : R (.returned (.int .i64 0)) w) : Calls Try.prog 16 #[] w R := by
  have HR : Hid _ := hR
  clear hR
  go_enter Try.func16, Try.ntmps16
  go_wp2
  exact HR.out

set_option maxHeartbeats 1000000 in
theorem new13 (w : World) {R : Ending → World → Prop}
    (hR : R (.returned (.pointer (some ⟨w.heap.size + 1, 0, none⟩))) ((w.alloc (.map #[] 0)).alloc (lobj 0 w.heap.size (.slice none 0 0) (.slice none 0 0) (.slice none 0 0) (.slice none 0 0) (.slice none 0 0) (.slice none 0 0) (.slice none 0 0) (.slice none 0 0) (.slice none 0 0)))) :
    Calls Try.prog 13 #[] w R := by
  have HR : Hid _ := hR
  clear hR
  unfold lobj at HR
  have mkm := @run_makeMap Try.prog
  go_enter Try.func13, Try.ntmps13
  go_wp2
  exact HR.out

theorem new_LS (w : World) : LS ((w.alloc (.map #[] 0)).alloc (lobj 0 w.heap.size (.slice none 0 0) (.slice none 0 0) (.slice none 0 0) (.slice none 0 0) (.slice none 0 0) (.slice none 0 0) (.slice none 0 0) (.slice none 0 0) (.slice none 0 0))) (w.heap.size + 1) w.heap.size [] 0 (.slice none 0 0) (.slice none 0 0) (.slice none 0 0) (.slice none 0 0) (.slice none 0 0) (.slice none 0 0) (.slice none 0 0) (.slice none 0 0) (.slice none 0 0)
    ((w.alloc (.map #[] 0)).alloc (lobj 0 w.heap.size (.slice none 0 0) (.slice none 0 0) (.slice none 0 0) (.slice none 0 0) (.slice none 0 0) (.slice none 0 0) (.slice none 0 0) (.slice none 0 0) (.slice none 0 0))) := by
  refine ⟨?_, (MapS.made w).fr (Fr.alloc _ _) (fun h => h), Fr.refl _ _, by simp, by simp; omega, by omega⟩
  have := Go.Deep.blk_alloc_new (w.alloc (.map #[] 0)) (lobj 0 w.heap.size (.slice none 0 0) (.slice none 0 0) (.slice none 0 0) (.slice none 0 0) (.slice none 0 0) (.slice none 0 0) (.slice none 0 0) (.slice none 0 0) (.slice none 0 0))
  simpa using this

set_option maxRecDepth 100000 in
set_option maxHeartbeats 1000000 in
theorem byLock15 (w0 : World) (bl bm n m : Nat) (wl : Nat → ByteArray) (wv av : Nat → Int) (L : Nat → Nat) (g : Nat → Nat → ByteArray) (A : Nat → Option Addr) (C : Nat → Nat) (va vw vl vt : Value) (nm : Nat → ByteArray) (vv : Nat → Int)
    (hnm : ∀ r j, r < m → j < L r → nm (sumL L r + j) = g r j ∧ vv (sumL L r + j) = av r) (hn : n ≤ 4096) (hm : m ≤ 4096) (hs : sumL L m ≤ 4096)
    (hwl : ∀ i, i < n → (wl i).size ≤ maxLen) (hg : ∀ r, r < m → ∀ j, j < L r → (g r j).size ≤ maxLen)
    (h : LS w0 bl bm [] 0 (.slice none 0 0) (.slice none 0 0) (.slice none 0 0) (.slice none 0 0) (.slice none 0 0) (.slice none 0 0) (.slice none 0 0) (.slice none 0 0) (.slice none 0 0) w0)
    (hD : ∀ w', Fr (fun x => x = bl ∨ x = bm) w0 w' → SlAt w' va m (fun j => .int .i64 (av j)) ∧ SlAt w' vw n (fun j => .int .i64 (wv j)) ∧ SlAt w' vl n (fun j => .string (wl j)) ∧ SlAt w' vt m (fun r => .slice (A r) (L r) (C r)) ∧ ∀ r, r < m → SlAt w' (.slice (A r) (L r) (C r)) (L r) (fun j => .string (g r j))) {R : Ending → World → Prop}
    (hR : ∀ v w', QS w' v (dist wl n).length (fun k a x => Grp w' a (fun t => key (dist wl n) (nm t)) vv (sumL L m) k ∧ Grp w' x (fun i => key (dist wl n) (wl i)) wv n k) → Fr (fun x => x = bl ∨ x = bm) w0 w' → R (.returned v) w') :
    Calls Try.prog 15 #[.pointer (some ⟨bl, 0, none⟩), va, vw, vl, vt] w0 R := by
  have HR : Hid _ := hR
  clear hR
  have HD : Hid _ := hD
  clear hD
  have HN : Hid _ := And.intro hnm (And.intro hwl hg)
  clear hnm hwl hg
  have HL : Hid _ := h
  clear h
  obtain ⟨a1, c1, rfl, x1⟩ := (HD.out w0 (Fr.refl _ _)).1
  obtain ⟨a2, c2, rfl, x2⟩ := (HD.out w0 (Fr.refl _ _)).2.1
  clear x1 x2
  go_enter Try.func15, Try.ntmps15
  go_wp2_with (fail)
  refine byLock26 w0 bl bm n m wl wv av L g A C _ _ vl vt nm vv HN.out.1 hn hm hs HN.out.2.1 HN.out.2.2 HL.out HD.out ?_
  intro v w' hq hf
  have HQ : Hid _ := HR.out v w' hq hf
  clear hq hf
  go_wp2
  exact HQ.out
end Go.Proofs.Qxb6600184a
