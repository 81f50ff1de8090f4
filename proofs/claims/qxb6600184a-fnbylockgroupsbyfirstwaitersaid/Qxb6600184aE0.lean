import Derived.Test.Qxb6600184aE1
namespace Go.Proofs.Qxb6600184a
set_option linter.unusedVariables false
set_option linter.unusedSimpArgs false
open Go.RowKit
attribute [local go_sem ↓] Go.wp_at_zero Go.wp_at_succ

theorem dist_mem {wl : Nat → ByteArray} {i : Nat} (h : wl i ∈ dist wl i) : dist wl (i + 1) = dist wl i := by simp only [dist]; rw [if_pos h]
theorem dist_not {wl : Nat → ByteArray} {i : Nat} (h : wl i ∉ dist wl i) : dist wl (i + 1) = dist wl i ++ [wl i] := by simp only [dist]; rw [if_neg h]
theorem key_none {D : List ByteArray} {x : ByteArray} (h : x ∉ D) : key D x = -1 := by unfold key; rw [if_neg h]

set_option maxRecDepth 100000 in
set_option maxHeartbeats 16000000 in
theorem byLock26 (w0 : World) (bl bm n m : Nat) (wl : Nat → ByteArray) (wv av : Nat → Int) (L : Nat → Nat) (g : Nat → Nat → ByteArray) (A : Nat → Option Addr) (C : Nat → Nat) (va vw vl vt : Value) (nm : Nat → ByteArray) (vv : Nat → Int)
    (hnm : ∀ r j, r < m → j < L r → nm (sumL L r + j) = g r j ∧ vv (sumL L r + j) = av r) (hn : n ≤ 4096) (hm : m ≤ 4096) (hs : sumL L m ≤ 4096)
    (hwl : ∀ i, i < n → (wl i).size ≤ maxLen) (hg : ∀ r, r < m → ∀ j, j < L r → (g r j).size ≤ maxLen)
    (h : LS w0 bl bm [] 0 (.slice none 0 0) (.slice none 0 0) (.slice none 0 0) (.slice none 0 0) (.slice none 0 0) (.slice none 0 0) (.slice none 0 0) (.slice none 0 0) (.slice none 0 0) w0)
    (hD : ∀ w', Fr (fun x => x = bl ∨ x = bm) w0 w' → SlAt w' va m (fun j => .int .i64 (av j)) ∧ SlAt w' vw n (fun j => .int .i64 (wv j)) ∧ SlAt w' vl n (fun j => .string (wl j)) ∧ SlAt w' vt m (fun r => .slice (A r) (L r) (C r)) ∧ ∀ r, r < m → SlAt w' (.slice (A r) (L r) (C r)) (L r) (fun j => .string (g r j))) {R : Ending → World → Prop}
    (hR : ∀ v w', QS w' v (dist wl n).length (fun k a x => Grp w' a (fun t => key (dist wl n) (nm t)) vv (sumL L m) k ∧ Grp w' x (fun i => key (dist wl n) (wl i)) wv n k) → Fr (fun x => x = bl ∨ x = bm) w0 w' → R (.returned v) w') :
    Calls Try.prog 26 #[.pointer (some ⟨bl, 0, none⟩), .agg #[va, .slice none 0 0, vw, .slice none 0 0, .int .u8 0], vl, vt] w0 R := by
  have HR : Hid _ := hR
  clear hR
  have HD : Hid _ := hD
  clear hD
  have HN : Hid _ := hnm
  clear hnm
  have q0 := h.c0
  have q2 := h.c2
  have z0 := h.fz 0
  have z2 := h.fz 2
  have hlt := h.lt
  obtain ⟨aa, ca, rfl, hx0⟩ := (HD.out w0 (Fr.refl _ _)).1
  obtain ⟨aw, cw, rfl, hx1⟩ := (HD.out w0 (Fr.refl _ _)).2.1
  obtain ⟨al, cl, rfl, hx2⟩ := (HD.out w0 (Fr.refl _ _)).2.2.1
  obtain ⟨at0, ct0, rfl, hx3⟩ := (HD.out w0 (Fr.refl _ _)).2.2.2.1
  clear hx0 hx1 hx2 hx3
  have hdn := dist_len wl n
  go_enter Try.func26, Try.ntmps26
  go_wp2_with (fail)
  have k1 := (((h.set0 1).set2 (.slice none 0 0)).alloc (.cells #[.slice aa m ca, (.slice none 0 0), .slice aw n cw, (.slice none 0 0), .int .u8 0] 57))
  have kq : (((w0.setCell ⟨bl, 0, none⟩ (.int .i64 1)).setCell ⟨bl, 2, none⟩ (.slice none 0 0)).alloc (.cells #[.slice aa m ca, (.slice none 0 0), .slice aw n cw, (.slice none 0 0), .int .u8 0] 57)).heap[w0.heap.size]? = some (.cells #[.slice aa m ca, (.slice none 0 0), .slice aw n cw, (.slice none 0 0), .int .u8 0] 57) := by
    have := Go.Deep.blk_alloc_new ((w0.setCell ⟨bl, 0, none⟩ (.int .i64 1)).setCell ⟨bl, 2, none⟩ (.slice none 0 0)) (.cells #[.slice aa m ca, (.slice none 0 0), .slice aw n cw, (.slice none 0 0), .int .u8 0] 57)
    simpa [World.setCell] using this
  generalize (((w0.setCell ⟨bl, 0, none⟩ (.int .i64 1)).setCell ⟨bl, 2, none⟩ (.slice none 0 0)).alloc (.cells #[.slice aa m ca, (.slice none 0 0), .slice aw n cw, (.slice none 0 0), .int .u8 0] 57)) = w1 at k1 kq ⊢
  have HF1 : Hid _ := k1.fr
  have h1 := k1.rebase
  have hqne : w0.heap.size ≠ bl ∧ w0.heap.size ≠ bm := ⟨fun e => by have := h.old.1; omega, fun e => by have := h.old.2.1; omega⟩
  generalize w0.heap.size = bq at kq hqne ⊢
  have HD1 : Hid (∀ w', Fr (fun x => x = bl ∨ x = bm) w1 w' → (SlAt w' (.slice aa m ca) m (fun j => .int .i64 (av j)) ∧ SlAt w' (.slice aw n cw) n (fun j => .int .i64 (wv j)) ∧ SlAt w' (.slice al n cl) n (fun j => .string (wl j)) ∧ SlAt w' (.slice at0 m ct0) m (fun r => .slice (A r) (L r) (C r)) ∧ ∀ r, r < m → SlAt w' (.slice (A r) (L r) (C r)) (L r) (fun j => .string (g r j))) ∧ w'.cell? ⟨bq, 0, none⟩ = some (.slice aa m ca) ∧ w'.cell? ⟨bq, 2, none⟩ = some (.slice aw n cw)) :=
    fun w' hf => ⟨HD.out w' (HF1.out.trans hf), hf.cell (fun e => e.elim hqne.1 hqne.2) (cell_of_row w1 bq 0 _ _ _ kq), hf.cell (fun e => e.elim hqne.1 hqne.2) (cell_of_row w1 bq 2 _ _ _ kq)⟩
  clear q0 q2 z0 z2 hlt k1 h HD kq hqne
  have hK : Hid (∀ i, i < n → key (dist wl (i + 1)) (wl i) = key (dist wl n) (wl i)) := fun i hi => (key_dist (by omega) (by rw [mem_dist]; exact ⟨i, by omega, rfl⟩)).symm
  have HW : Hid _ := hwl
  clear hwl
  have HG : Hid _ := hg
  clear hg
  go_loopg [9, 49] n (fun gh qn i wr => ∃ k : Nat, k ≤ n ∧ gh = n - k ∧ i = .int .i64 k ∧ qn = .int .i64 (dist wl k).length ∧ ∃ vq, LS w1 bl bm (dist wl k) 1 vq (.slice none 0 0) (.slice none 0 0) (.slice none 0 0) (.slice none 0 0) (.slice none 0 0) (.slice none 0 0) (.slice none 0 0) (.slice none 0 0) wr ∧
    wr.ownsRow w1.heap.size 3 1 vq k (ints (fun j => key (dist wl n) (wl j)) k))
  case atStart => exact ⟨0, Nat.zero_le _, rfl, rfl, rfl, _, h1, World.ownsRow_nil _ _ _ _⟩
  case round =>
    obtain ⟨k, hk, rfl, rfl, rfl, vq, hL, hown⟩ := hrel
    have hdl := dist_len wl k
    by_cases hlt : k < n
    · skip
      obtain ⟨lb, lo, hlb, hcell⟩ := (HD1.out wr hL.fr).1.2.2.1.cellAt (by omega)
      subst hlb
      have hcx := hcell k hlt
      have hlook := hL.map.lookup (HW.out k hlt)
      have c1 := hL.c1
      have hbl := hL.lt
      clear hcell
      by_cases hmem : wl k ∈ dist wl k
      · skip
        rw [mvD_mem hmem] at hlook
        simp only [Option.getD_some, Option.isSome_some] at hlook
        have hL1 := hL.alloc (.cells #[.int .i64 1, .int .i64 (key (dist wl k) (wl k))] 70)
        have d0 := hL1.c0
        go_upto_region 8 with (fail)
        go_quiet (fail)
        go_upto_region 12 with (fail)
        have hkk : key (dist wl k) (wl k) = key (dist wl n) (wl k) := by rw [← hK.out k hlt, dist_mem hmem]
        have hlen : (dist wl k).length = (dist wl (k + 1)).length := by rw [dist_mem hmem]
        have hL5 : LS w1 bl bm (dist wl (k + 1)) 1 vq (.slice none 0 0) (.slice none 0 0) (.slice none 0 0) (.slice none 0 0) (.slice none 0 0) (.slice none 0 0) (.slice none 0 0) (.slice none 0 0) ((wr.alloc (.cells #[.int .i64 1, .int .i64 (key (dist wl k) (wl k))] 70)).drewN nq) := by
          have := hL1.drewN nq
          rw [dist_mem hmem]; exact this
        have hown5 : ((wr.alloc (.cells #[.int .i64 1, .int .i64 (key (dist wl k) (wl k))] 70)).drewN nq).ownsRow w1.heap.size 3 1 vq k (ints (fun j => key (dist wl n) (wl j)) k) := hown.alloc _
        have hbox : ((wr.alloc (.cells #[.int .i64 1, .int .i64 (key (dist wl k) (wl k))] 70)).drewN nq).cell? ⟨wr.heap.size, 1, none⟩ = some (.int .i64 (key (dist wl n) (wl k))) := by
          rw [← hkk]
          exact cell_of_row (wr.alloc (.cells #[.int .i64 1, .int .i64 (key (dist wl k) (wl k))] 70)) wr.heap.size 1 _ _ _ (Go.Deep.blk_alloc_new _ _)
        clear hlook hL1 d0 hL hown c1 hcx hbl
        generalize (wr.alloc (.cells #[.int .i64 1, .int .i64 (key (dist wl k) (wl k))] 70)).drewN nq = w5 at hL5 hown5 hbox ⊢

        obtain ⟨i0, hi0, hz0, hz1, hz2⟩ := info_parts Try.info3
        have p2 := hL5.c2
        have b5 := World.block_lt_of_cell? w5 _ hbox
        have bl5 := hL5.lt
        have sz5 : w1.heap.size ≤ w5.heap.size := hL5.fr.size
        generalize hKK : key (dist wl n) (wl k) = KK at hbox
        have hKK' : (fun j => key (dist wl n) (wl j)) k = KK := hKK
        go_region_law ((refine step_append_lies _ rfl _ _ 22 rfl w1.heap.size 3 i0 (.int .i64 0) 1 8 Try.underlying22 hi0 hz0 hz1 hz2 rfl (by decide) vq k (ints (fun j => key (dist wl n) (wl j)) k) (by simp [Act.eval, Act.put]) (by exact hown5.alloc _) ⟨w5.heap.size, 0, none⟩ 1 1 [.int .i64 KK] (by simp [Act.eval, Act.put]) rfl (cell_one_new _ _ _) (ints_oneCell .i64 [KK]) (by decide) (by unfold maxLen; omega) (by omega) (by simp; omega) _ rfl ?_; intro g6 cap6 w6 hown6 hgrow6 hat6 hlt6; have HL6 : Hid (LS w1 bl bm (dist wl (k + 1)) 1 vq (.slice none 0 0) (.slice none 0 0) (.slice none 0 0) (.slice none 0 0) (.slice none 0 0) (.slice none 0 0) (.slice none 0 0) (.slice none 0 0) w6) := ((hL5.alloc (.cells #[.int .i64 KK] 3)).drew).grown hgrow6 (fun x hx => (ownsRow_own hown5 x hx).1); have HO6 : Hid _ := hown6; have r1 := HL6.out.c2; have r2 := HL6.out.fz 2; have r3 := (ownsRow_own hown6 g6 rfl).1; clear hown6 hgrow6 hat6 hlt6))
        all_goals
          go_wp2_with (fail)
          go_roundg (n - (k + 1))
          case measure => omega
          case rel =>
            refine ⟨k + 1, by omega, rfl, by go_num, by first | rfl | (rw [hlen]; go_num) | (rw [hlen]), _, HL6.out.set2 _, ?_⟩
            have := HO6.out
            rw [← hKK', ints_succ] at this
            exact ownsRow_setBl this hL5.old.1 _ _

      · skip
        rw [mvD_not hmem] at hlook
        simp only [Option.getD_none, Option.isSome_none] at hlook
        have d0 := hL.c0
        go_upto_region 8 with (fail)
        go_quiet (fail)
        go_upto_region 9 with (fail)
        have hL3 := (hL.alloc (.cells #[.int .i64 0, .int .i64 0] 70)).drewN nq
        have hB3 : ((wr.alloc (.cells #[.int .i64 0, .int .i64 0] 70)).drewN nq).heap[wr.heap.size]? = some (.cells #[.int .i64 0, .int .i64 0] 70) := Go.Deep.blk_alloc_new wr _
        have hown3 : ((wr.alloc (.cells #[.int .i64 0, .int .i64 0] 70)).drewN nq).ownsRow w1.heap.size 3 1 vq k (ints (fun j => key (dist wl n) (wl j)) k) := hown.alloc _
        have hbx : w1.heap.size ≤ wr.heap.size := hL.fr.size
        have hvx : ∀ x, vq.ownBlock = some x → x < wr.heap.size := fun x hx => (ownsRow_own hown x hx).2
        generalize (wr.alloc (.cells #[.int .i64 0, .int .i64 0] 70)).drewN nq = w3 at hL3 hB3 hown3 ⊢
        clear hlook d0 hL hown c1 hcx hbl
        generalize wr.heap.size = bx at hB3 hbx hvx ⊢
        have e0 := hL3.c0
        have e1 : w3.cell? ⟨bx, 0, none⟩ = some (.int .i64 0) := cell_of_row w3 bx 0 _ _ _ hB3
        have e2 : w3.cell? ⟨bx, 1, none⟩ = some (.int .i64 0) := cell_of_row w3 bx 1 _ _ _ hB3
        have e3 : w3.frozen? ⟨bx, 0, none⟩ = false := frozen_of_row w3 bx 0 _ _ hB3
        have e4 : w3.frozen? ⟨bx, 1, none⟩ = false := frozen_of_row w3 bx 1 _ _ hB3
        go_upto_region 10 with (fail)
        have hF9 : Fr (· = bx) w3 ((w3.setCell ⟨bx, 0, none⟩ (.int .i64 1)).setCell ⟨bx, 1, none⟩ (.int .i64 ((dist wl k).length : Nat))) := (Fr.setCell w3 ⟨bx, 0, none⟩ _).trans (Fr.setCell _ ⟨bx, 1, none⟩ _)
        have hB9 : ((w3.setCell ⟨bx, 0, none⟩ (.int .i64 1)).setCell ⟨bx, 1, none⟩ (.int .i64 ((dist wl k).length : Nat))).heap[bx]? = some (.cells #[.int .i64 1, .int .i64 ((dist wl k).length : Nat)] 70) := heap_setCell_same _ _ _ _ _ _ (heap_setCell_same _ _ _ _ _ _ hB3)
        have hL9 := hL3.step hF9 (fun x hx => by subst hx; exact hbx)
        have hown9 := hF9.ownsRow hown3 (fun x hx e => by have h1 := hvx x hx; have e' : x = bx := e; omega)
        generalize (w3.setCell ⟨bx, 0, none⟩ (.int .i64 1)).setCell ⟨bx, 1, none⟩ (.int .i64 ((dist wl k).length : Nat)) = w9 at hL9 hown9 hB9 ⊢
        clear hF9 hL3 hB3 hown3 e0 e1 e2 e3 e4 hvx
        obtain ⟨w4, hrun, hL4, hF4⟩ := hL9.insert (HW.out k hlt) hmem
        have hrun1 : (Instr.mapUpdate 48 (.map (some bm)) (.string (wl k)) (.agg #[.int .i64 1, .int .i64 ((dist wl k).length : Nat)])).run Try.prog w9.drew = .ok () w4.drew := hrun 1
        have e1 : w9.cell? ⟨bx, 0, none⟩ = some (.int .i64 1) := cell_of_row w9 bx 0 _ _ _ hB9
        have e2 : w9.cell? ⟨bx, 1, none⟩ = some (.int .i64 ((dist wl k).length : Nat)) := cell_of_row w9 bx 1 _ _ _ hB9
        have e3 := hL9.c1
        go_region
        go_upto_region 12 with (fail)
        have hkk : ((dist wl k).length : Int) = key (dist wl n) (wl k) := by rw [← hK.out k hlt, dist_not hmem, key_new hmem]
        have hlen : (dist wl (k + 1)).length = (dist wl k).length + 1 := by rw [dist_not hmem, List.length_append]; rfl
        have hL5 : LS w1 bl bm (dist wl (k + 1)) 1 vq (.slice none 0 0) (.slice none 0 0) (.slice none 0 0) (.slice none 0 0) (.slice none 0 0) (.slice none 0 0) (.slice none 0 0) (.slice none 0 0) w4.drew := by
          have := hL4.drew
          rw [dist_not hmem]; exact this
        have hown5 : w4.drew.ownsRow w1.heap.size 3 1 vq k (ints (fun j => key (dist wl n) (wl j)) k) := hF4.drew.ownsRow hown9 (fun x hx e => by have h1 := (ownsRow_own hown9 x hx).1; have e' : x = bm := e; have := hL9.old.2.1; omega)
        have hbox : w4.drew.cell? ⟨bx, 1, none⟩ = some (.int .i64 (key (dist wl n) (wl k))) := by
          rw [← hkk]
          refine hF4.drew.cell (p := ⟨bx, 1, none⟩) (fun e => ?_) e2
          have e' : bx = bm := e
          have h1 := hL9.old.2.1
          omega
        clear hrun hrun1 hL4 hF4 hL9 hB9 hown9 e1 e2 e3
        generalize w4.drew = w5 at hL5 hown5 hbox ⊢

        obtain ⟨i0, hi0, hz0, hz1, hz2⟩ := info_parts Try.info3
        have p2 := hL5.c2
        have b5 := World.block_lt_of_cell? w5 _ hbox
        have bl5 := hL5.lt
        have sz5 : w1.heap.size ≤ w5.heap.size := hL5.fr.size
        generalize hKK : key (dist wl n) (wl k) = KK at hbox
        have hKK' : (fun j => key (dist wl n) (wl j)) k = KK := hKK
        go_region_law ((refine step_append_lies _ rfl _ _ 22 rfl w1.heap.size 3 i0 (.int .i64 0) 1 8 Try.underlying22 hi0 hz0 hz1 hz2 rfl (by decide) vq k (ints (fun j => key (dist wl n) (wl j)) k) (by simp [Act.eval, Act.put]) (by exact hown5.alloc _) ⟨w5.heap.size, 0, none⟩ 1 1 [.int .i64 KK] (by simp [Act.eval, Act.put]) rfl (cell_one_new _ _ _) (ints_oneCell .i64 [KK]) (by decide) (by unfold maxLen; omega) (by omega) (by simp; omega) _ rfl ?_; intro g6 cap6 w6 hown6 hgrow6 hat6 hlt6; have HL6 : Hid (LS w1 bl bm (dist wl (k + 1)) 1 vq (.slice none 0 0) (.slice none 0 0) (.slice none 0 0) (.slice none 0 0) (.slice none 0 0) (.slice none 0 0) (.slice none 0 0) (.slice none 0 0) w6) := ((hL5.alloc (.cells #[.int .i64 KK] 3)).drew).grown hgrow6 (fun x hx => (ownsRow_own hown5 x hx).1); have HO6 : Hid _ := hown6; have r1 := HL6.out.c2; have r2 := HL6.out.fz 2; have r3 := (ownsRow_own hown6 g6 rfl).1; clear hown6 hgrow6 hat6 hlt6))
        all_goals
          go_wp2_with (fail)
          go_roundg (n - (k + 1))
          case measure => omega
          case rel =>
            refine ⟨k + 1, by omega, rfl, by go_num, by first | rfl | (rw [hlen]; go_num) | (rw [hlen]), _, HL6.out.set2 _, ?_⟩
            have := HO6.out
            rw [← hKK', ints_succ] at this
            exact ownsRow_setBl this hL5.old.1 _ _
    · skip
      have hkn : n = k := by omega
      subst hkn
      clear hlt hk hdl h1
      obtain ⟨w2, hw2⟩ : ∃ x, x = wr := ⟨wr, rfl⟩
      subst hw2
      have HF2 : Hid (Fr (fun x => x = bl ∨ x = bm) w0 w2) := HF1.out.trans hL.fr
      have h2 := hL.rebase
      have HD2 : Hid (∀ w', Fr (fun x => x = bl ∨ x = bm) w2 w' → ((SlAt w' (.slice aa m ca) m (fun j => .int .i64 (av j)) ∧ SlAt w' (.slice aw n cw) n (fun j => .int .i64 (wv j)) ∧ SlAt w' (.slice al n cl) n (fun j => .string (wl j)) ∧ SlAt w' (.slice at0 m ct0) m (fun r => .slice (A r) (L r) (C r)) ∧ ∀ r, r < m → SlAt w' (.slice (A r) (L r) (C r)) (L r) (fun j => .string (g r j))) ∧ w'.cell? ⟨bq, 0, none⟩ = some (.slice aa m ca) ∧ w'.cell? ⟨bq, 2, none⟩ = some (.slice aw n cw)) ∧ SlAt w' vq n (fun j => .int .i64 (key (dist wl n) (wl j)))) :=
        fun w' hf => ⟨HD1.out w' (hL.fr.trans hf), hf.slAt (ownsRow_cell hown) (fun x hx e => by have h1 := (ownsRow_own hown x hx).1; have o1 := hL.old.1; have o2 := hL.old.2.1; rcases e with e | e <;> omega)⟩
      obtain ⟨aq, cq, hvq, hvq2⟩ := ownsRow_cell hown
      clear hvq2
      subst hvq
      have c3 := hL.c3
      have z3 := hL.fz 3
      clear hL hown
      go_wp2_with (fail)
      clear c3 z3
      go_loopg [109] m (fun gh i wr => ∃ r : Nat, r ≤ m ∧ gh = m - r ∧ i = .int .i64 r ∧ ∃ vk, LS w2 bl bm (dist wl n) 1 (.slice aq n cq) vk (.slice none 0 0) (.slice none 0 0) (.slice none 0 0) (.slice none 0 0) (.slice none 0 0) (.slice none 0 0) (.slice none 0 0) wr ∧ wr.ownsRow w2.heap.size 3 1 vk (sumL L r) (ints (fun t => key (dist wl n) (nm t)) (sumL L r)))
      case atStart => exact ⟨0, Nat.zero_le _, rfl, rfl, _, h2.set3 _, World.ownsRow_nil _ _ _ _⟩
      case round =>
        obtain ⟨r, hr, rfl, rfl, vk, hL, hown⟩ := hrel
        by_cases hlt : r < m
        · obtain ⟨lb, lo, hlb, hcell⟩ := (HD2.out wr hL.fr).1.1.2.2.2.1.cellAt (by omega)
          subst hlb
          have hcx := hcell r hlt
          clear hcell
          have hsr : sumL L (r + 1) ≤ sumL L m := sumL_mono (by omega)
          simp only [sumL] at hsr
          obtain ⟨ar, har⟩ : ∃ x, x = A r := ⟨_, rfl⟩
          rw [← har] at hcx
          have HAR : Hid _ := har
          clear har
          go_wp2_with (fail)
          clear hcx
          go_loopg [115] (L r) (fun gh i wr => ∃ j : Nat, j ≤ L r ∧ gh = L r - j ∧ i = .int .i64 j ∧ ∃ vk, LS w2 bl bm (dist wl n) 1 (.slice aq n cq) vk (.slice none 0 0) (.slice none 0 0) (.slice none 0 0) (.slice none 0 0) (.slice none 0 0) (.slice none 0 0) (.slice none 0 0) wr ∧ wr.ownsRow w2.heap.size 3 1 vk (sumL L r + j) (ints (fun t => key (dist wl n) (nm t)) (sumL L r + j)))
          case atStart => exact ⟨0, Nat.zero_le _, rfl, rfl, _, hL, hown⟩
          case round =>
            clear hL hown
            obtain ⟨j, hj, rfl, rfl, vk, hL, hown⟩ := hrel
            by_cases hlt2 : j < L r
            · skip
              obtain ⟨nb, no, hnb, hcell⟩ := ((HD2.out wr hL.fr).1.1.2.2.2.2 r hlt).cellAt (by omega)
              have hcx := hcell j hlt2
              rw [← HAR.out] at hnb
              subst hnb
              have hlook := hL.map.lookup (HG.out r hlt j hlt2)
              have c1 := hL.c1
              have d0 := hL.c0
              have hbl := hL.lt
              have hnmj := (HN.out r j hlt hlt2).1
              clear hcell
              obtain ⟨i0, hi0, hz0, hz1, hz2⟩ := info_parts Try.info3
              by_cases hmem : g r j ∈ dist wl n
              · rw [mvD_mem hmem] at hlook
                simp only [Option.getD_some, Option.isSome_some] at hlook
                have hKK : (fun t => key (dist wl n) (nm t)) (sumL L r + j) = key (dist wl n) (g r j) := by dsimp only; rw [hnmj]
                generalize key (dist wl n) (g r j) = KK at hlook hKK
                go_upto_region 23 with (fail)
                go_quiet (fail)
                go_upto_region 25 with (fail)
                have hL5 := (hL.alloc (.cells #[.int .i64 1, .int .i64 KK] 70)).drewN nq
                have hown5 : ((wr.alloc (.cells #[.int .i64 1, .int .i64 KK] 70)).drewN nq).ownsRow w2.heap.size 3 1 vk (sumL L r + j) (ints (fun t => key (dist wl n) (nm t)) (sumL L r + j)) := hown.alloc _
                clear hlook c1 d0 hL hown hcx hbl
                generalize (wr.alloc (.cells #[.int .i64 1, .int .i64 KK] 70)).drewN nq = w5 at hL5 hown5 ⊢
                have p3 := hL5.c3
                have sz5 : w2.heap.size ≤ w5.heap.size := hL5.fr.size
                have bl5 := hL5.lt
                go_wp2_with (at_builtin; refine wpList_append_lies _ rfl _ _ 22 rfl w2.heap.size 3 i0 (.int .i64 0) 1 8 Try.underlying22 hi0 hz0 hz1 hz2 rfl (by decide) vk (sumL L r + j) (ints (fun t => key (dist wl n) (nm t)) (sumL L r + j)) rfl (by exact hown5.alloc _) ⟨w5.heap.size, 0, none⟩ 1 1 [.int .i64 KK] rfl rfl (cell_one_new _ _ _) (ints_oneCell .i64 [KK]) (by decide) (by unfold maxLen; omega) (by omega) (by simp; omega) _ rfl ?_; intro g6 cap6 w6 hown6 hgrow6 hat6 hlt6; have HL6 : Hid (LS w2 bl bm (dist wl n) 1 (.slice aq n cq) vk (.slice none 0 0) (.slice none 0 0) (.slice none 0 0) (.slice none 0 0) (.slice none 0 0) (.slice none 0 0) (.slice none 0 0) w6) := ((hL5.alloc (.cells #[.int .i64 KK] 3))).grown hgrow6 (fun x hx => (ownsRow_own hown5 x hx).1); have HO6 : Hid _ := hown6; have r1 := HL6.out.c3; have r2 := HL6.out.fz 3; clear hown6 hgrow6 hat6 hlt6)
                go_roundg (L r - (j + 1))
                case measure => omega
                case rel =>
                  refine ⟨j + 1, by omega, rfl, by go_num, _, HL6.out.set3 _, ?_⟩
                  have := HO6.out
                  rw [← hKK, ints_succ] at this
                  exact ownsRow_setBl this hL5.old.1 _ _
              · rw [mvD_not hmem] at hlook
                simp only [Option.getD_none, Option.isSome_none] at hlook
                have hKK : (fun t => key (dist wl n) (nm t)) (sumL L r + j) = -1 := by dsimp only; rw [hnmj]; exact key_none hmem
                go_upto_region 23 with (fail)
                go_quiet (fail)
                go_upto_region 25 with (fail)
                have hL5 := (hL.alloc (.cells #[.int .i64 0, .int .i64 0] 70)).drewN nq
                have hown5 : ((wr.alloc (.cells #[.int .i64 0, .int .i64 0] 70)).drewN nq).ownsRow w2.heap.size 3 1 vk (sumL L r + j) (ints (fun t => key (dist wl n) (nm t)) (sumL L r + j)) := hown.alloc _
                clear hlook c1 d0 hL hown hcx hbl
                generalize (wr.alloc (.cells #[.int .i64 0, .int .i64 0] 70)).drewN nq = w5 at hL5 hown5 ⊢
                have p3 := hL5.c3
                have sz5 : w2.heap.size ≤ w5.heap.size := hL5.fr.size
                have bl5 := hL5.lt
                go_wp2_with (at_builtin; refine wpList_append_lies _ rfl _ _ 22 rfl w2.heap.size 3 i0 (.int .i64 0) 1 8 Try.underlying22 hi0 hz0 hz1 hz2 rfl (by decide) vk (sumL L r + j) (ints (fun t => key (dist wl n) (nm t)) (sumL L r + j)) rfl (by exact hown5.alloc _) ⟨w5.heap.size, 0, none⟩ 1 1 [.int .i64 (-1)] rfl rfl (cell_one_new _ _ _) (ints_oneCell .i64 [(-1)]) (by decide) (by unfold maxLen; omega) (by omega) (by simp; omega) _ rfl ?_; intro g6 cap6 w6 hown6 hgrow6 hat6 hlt6; have HL6 : Hid (LS w2 bl bm (dist wl n) 1 (.slice aq n cq) vk (.slice none 0 0) (.slice none 0 0) (.slice none 0 0) (.slice none 0 0) (.slice none 0 0) (.slice none 0 0) (.slice none 0 0) w6) := ((hL5.alloc (.cells #[.int .i64 (-1)] 3))).grown hgrow6 (fun x hx => (ownsRow_own hown5 x hx).1); have HO6 : Hid _ := hown6; have r1 := HL6.out.c3; have r2 := HL6.out.fz 3; clear hown6 hgrow6 hat6 hlt6)
                go_roundg (L r - (j + 1))
                case measure => omega
                case rel =>
                  refine ⟨j + 1, by omega, rfl, by go_num, _, HL6.out.set3 _, ?_⟩
                  have := HO6.out
                  rw [← hKK, ints_succ] at this
                  exact ownsRow_setBl this hL5.old.1 _ _
            · have HJ : Hid (j = L r) := by have : j = L r := by omega
                                            exact this
              go_wp2_with (fail)
              go_roundg (m - (r + 1))
              case measure => omega
              case rel => exact ⟨r + 1, by omega, rfl, by go_num, vk, hL, by rw [HJ.out] at hown; exact hown⟩
        · skip
          have hrm : m = r := by omega
          subst hrm
          clear hlt hr h2
          obtain ⟨w3, hw3⟩ : ∃ x, x = wr := ⟨wr, rfl⟩
          subst hw3
          have HF3 : Hid (Fr (fun x => x = bl ∨ x = bm) w0 w3) := HF2.out.trans hL.fr
          have h3 := hL.rebase
          obtain ⟨ak, ck, hvk, hvk2⟩ := ownsRow_cell hown
          clear hvk2
          subst hvk
          have HD3 : Hid (∀ w', Fr (fun x => x = bl ∨ x = bm) w3 w' → ((((SlAt w' (.slice aa m ca) m (fun j => .int .i64 (av j)) ∧ SlAt w' (.slice aw n cw) n (fun j => .int .i64 (wv j)) ∧ SlAt w' (.slice al n cl) n (fun j => .string (wl j)) ∧ SlAt w' (.slice at0 m ct0) m (fun r => .slice (A r) (L r) (C r)) ∧ ∀ r, r < m → SlAt w' (.slice (A r) (L r) (C r)) (L r) (fun j => .string (g r j))) ∧ w'.cell? ⟨bq, 0, none⟩ = some (.slice aa m ca) ∧ w'.cell? ⟨bq, 2, none⟩ = some (.slice aw n cw)) ∧ SlAt w' (.slice aq n cq) n (fun j => .int .i64 (key (dist wl n) (wl j)))) ∧ SlAt w' (.slice ak (sumL L m) ck) (sumL L m) (fun t => .int .i64 (key (dist wl n) (nm t))))) :=
            fun w' hf => ⟨HD2.out w' (hL.fr.trans hf), hf.slAt (ownsRow_cell hown) (fun x hx e => by have h1 := (ownsRow_own hown x hx).1; have o1 := hL.old.1; have o2 := hL.old.2.1; rcases e with e | e <;> omega)⟩
          clear hL hown HD2 HD1 hK
          have c4 := h3.c4
          have z4 := h3.fz 4
          go_wp2_with (fail)
          refine reset29 bl 4 (dist wl n).length (by omega) _ c4 z4 ?_
          intro Cw w4 hCw hmw hroww hfrw
          have hL4 := (h3.set4 (.slice (some ⟨w3.heap.size, 0, none⟩) ((dist wl n).length + 1) Cw)).step hfrw (fun x hx => hx.elim)
          have hcnt0 := CNT.start (ks := (fun i => key (dist wl n) (wl i))) hCw hroww
          obtain ⟨gs, hgs⟩ : ∃ x, x = w3.heap.size := ⟨_, rfl⟩
          rw [← hgs] at hL4 hcnt0
          have HGS : Hid (w3.heap.size ≤ gs ∧ gs ≠ bl ∧ gs ≠ bm) := ⟨by omega, fun e => by have := h3.old.1; omega, fun e => by have := h3.old.2.1; omega⟩
          have hgs4 : Hid (gs < w4.heap.size) := by
            obtain ⟨_, f, hf, _⟩ := hcnt0
            exact hf.lt
          clear hgs c4 z4 hroww hfrw
          have HCW : Hid _ := And.intro hCw hmw
          clear hCw hmw
          have c2 := hL4.c2
          go_wp2_with (fail)
          clear c2
          go_loopg [162] n (fun gh i wr => ∃ k : Nat, k ≤ n ∧ gh = n - k ∧ i = .int .i64 k ∧ LS w3 bl bm (dist wl n) 1 (.slice aq n cq) (.slice ak (sumL L m) ck) (.slice (some ⟨gs, 0, none⟩) ((dist wl n).length + 1) Cw) (.slice none 0 0) (.slice none 0 0) (.slice none 0 0) (.slice none 0 0) (.slice none 0 0) (.slice none 0 0) wr ∧ CNT wr gs Cw (dist wl n).length (fun i => key (dist wl n) (wl i)) k)
          case atStart => exact ⟨0, Nat.zero_le _, rfl, rfl, hL4, hcnt0⟩
          case round =>
            clear hL4 hcnt0
            obtain ⟨k, hk, rfl, rfl, hL, hcnt⟩ := hrel
            by_cases hlt : k < n
            · obtain ⟨qb, qo, hqb, hcell⟩ := (HD3.out wr hL.fr).1.2.cellAt (by omega)
              subst hqb
              have hcx := hcell k hlt
              have hmem : wl k ∈ dist wl n := by rw [mem_dist]; exact ⟨k, hlt, rfl⟩
              obtain ⟨kk, hkk⟩ : ∃ kk : Nat, key (dist wl n) (wl k) = (kk : Nat) := ⟨(key (dist wl n) (wl k)).toNat, by have := key_nonneg.2 hmem; omega⟩
              have hkK : kk < (dist wl n).length := by have := key_lt (D := dist wl n) (x := wl k); omega
              rw [hkk] at hcx
              have HKK : Hid _ := hkk
              clear hcell hmem hkk
              go_wp2_with (fail)
              refine hcnt.count HKK.out hkK (by omega) (by omega) hL.c4 ?_
              intro w5 hc5 hf5
              have hL5 := hL.step hf5 (fun x hx => by subst hx; exact HGS.out.1)
              clear hcnt hL hf5 hcx
              go_wp2_with (fail)
              go_roundg (n - (k + 1))
              case measure => omega
              case rel => exact ⟨k + 1, by omega, rfl, by go_num, hL5, hc5⟩
            · have hkn : n = k := by omega
              subst hkn
              clear hlt hk
              go_wp2_with (fail)
              refine hcnt.lay wv (by omega) (by omega) HGS.out.2.1 hL.c4 hL.c5 hL.c6 hL.fz ?_
              intro vi vf gi gf w5 hS5 hg1 hg2 hf5
              have hf5' : Fr (· = gs) ((wr.setCell ⟨bl, 5, none⟩ vi).setCell ⟨bl, 6, none⟩ vf) w5 := hf5
              have hL5 := ((hL.set5 vi).set6 vf).step hf5' (fun x hx => by subst hx; exact HGS.out.1)
              have hsw : w3.heap.size ≤ wr.heap.size := hL.fr.size
              have hblw := hL.lt
              have hbmw := hL.map.lt
              have HGI : Hid ((w3.heap.size ≤ gi ∧ gi ≠ bl ∧ gi ≠ bm) ∧ (w3.heap.size ≤ gf ∧ gf ≠ bl ∧ gf ≠ bm)) := ⟨⟨by omega, by omega, by omega⟩, by omega, by omega, by omega⟩
              have cq2 := (HD3.out w5 hL5.fr).1.1.2.2
              clear hcnt hL hf5 hf5' hg1 hg2 hsw hblw hbmw
              go_wp2_with (fail)
              clear cq2
              go_loopg [179] n (fun gh i wr => ∃ k : Nat, k ≤ n ∧ gh = n - k ∧ i = .int .i64 k ∧ LS w3 bl bm (dist wl n) 1 (.slice aq n cq) (.slice ak (sumL L m) ck) (.slice (some ⟨gs, 0, none⟩) ((dist wl n).length + 1) Cw) vi vf (.slice none 0 0) (.slice none 0 0) (.slice none 0 0) (.slice none 0 0) wr ∧ SLI wr gs Cw (dist wl n).length vi vf gi gf (fun i => key (dist wl n) (wl i)) wv n k)
              case atStart => exact ⟨0, Nat.zero_le _, rfl, rfl, hL5, hS5⟩
              case round =>
                clear hL5 hS5
                obtain ⟨k, hk, rfl, rfl, hL, hS⟩ := hrel
                by_cases hlt : k < n
                · skip
                  obtain ⟨qb, qo, hqb, hcell⟩ := (HD3.out wr hL.fr).1.2.cellAt (by omega)
                  subst hqb
                  have hcx := hcell k hlt
                  obtain ⟨wb, wo, hwb, hcell2⟩ := (HD3.out wr hL.fr).1.1.1.2.1.cellAt (by omega)
                  subst hwb
                  have hcy := hcell2 k hlt
                  have hmem : wl k ∈ dist wl n := by rw [mem_dist]; exact ⟨k, hlt, rfl⟩
                  obtain ⟨kk, hkk⟩ : ∃ kk : Nat, key (dist wl n) (wl k) = (kk : Nat) := ⟨(key (dist wl n) (wl k)).toNat, by have := key_nonneg.2 hmem; omega⟩
                  have hkK : kk < (dist wl n).length := by have := key_lt (D := dist wl n) (x := wl k); omega
                  rw [hkk] at hcx
                  have HKK : Hid _ := hkk
                  clear hcell hmem hkk hcell2
                  have c2 := hL.c2
                  have hSd : SLI wr.drew gs Cw (dist wl n).length vi vf gi gf (fun i => key (dist wl n) (wl i)) wv n k := hS.fr (S := fun _ => False) (Fr.refl _ wr).drew (fun h => h) (fun h => h) (fun h => h)
                  go_upto_region 38 with (fail)
                  go_region_with ((go_at_call 32; refine hSd.put (kk := kk) HKK.out hkK (by omega) (by omega) hlt HGI.out.1.2.1 hL.c4 hL.c5 hL.c6 (wv k) rfl ?_; intro i6 w6 hS6 hf6))
                  all_goals
                    have hL6 := hL.drew.step hf6 (fun x hx => hx.elim (fun e => by subst e; exact HGI.out.1.1) (fun e => by subst e; exact HGI.out.2.1))
                    clear hSd hS hL hf6 hcx hcy c2
                    go_wp2_with (fail)
                    go_roundg (n - (k + 1))
                    case measure => omega
                    case rel => exact ⟨k + 1, by omega, rfl, by go_num, hL6, hS6⟩
                · skip
                  have hkn : n = k := by omega
                  subst hkn
                  clear hlt hk
                  obtain ⟨w6, hw6⟩ : ∃ x, x = wr := ⟨wr, rfl⟩
                  subst hw6
                  have HF6 : Hid (Fr (fun x => x = bl ∨ x = bm) w0 w6) := HF3.out.trans hL.fr
                  have h6 := hL.rebase
                  have HD6 : Hid (∀ w', Fr (fun x => x = bl ∨ x = bm) w6 w' → ((((SlAt w' (.slice aa m ca) m (fun j => .int .i64 (av j)) ∧ SlAt w' (.slice aw n cw) n (fun j => .int .i64 (wv j)) ∧ SlAt w' (.slice al n cl) n (fun j => .string (wl j)) ∧ SlAt w' (.slice at0 m ct0) m (fun r => .slice (A r) (L r) (C r)) ∧ ∀ r, r < m → SlAt w' (.slice (A r) (L r) (C r)) (L r) (fun j => .string (g r j))) ∧ w'.cell? ⟨bq, 0, none⟩ = some (.slice aa m ca) ∧ w'.cell? ⟨bq, 2, none⟩ = some (.slice aw n cw)) ∧ SlAt w' (.slice aq n cq) n (fun j => .int .i64 (key (dist wl n) (wl j)))) ∧ SlAt w' (.slice ak (sumL L m) ck) (sumL L m) (fun t => .int .i64 (key (dist wl n) (nm t)))) ∧ SLI w' gs Cw (dist wl n).length vi vf gi gf (fun i => key (dist wl n) (wl i)) wv n n) :=
                    fun w' hf => ⟨HD3.out w' (hL.fr.trans hf), hS.fr hf (fun e => e.elim HGS.out.2.1 HGS.out.2.2) (fun e => e.elim HGI.out.1.2.1 HGI.out.1.2.2) (fun e => e.elim HGI.out.2.2.1 HGI.out.2.2.2)⟩
                  have HSZ6 : Hid (gs < w6.heap.size) := by
                    obtain ⟨f, hf, _⟩ := hS.st
                    exact hf.lt
                  clear hL hS HD3
                  have c7 := h6.c7
                  have z7 := h6.fz 7
                  go_wp2_with (fail)
                  refine reset29 bl 7 (dist wl n).length (by omega) _ c7 z7 ?_
                  intro Ca w7 hCa hma hrowa hfra
                  have hL7 := (h6.set7 (.slice (some ⟨w6.heap.size, 0, none⟩) ((dist wl n).length + 1) Ca)).step hfra (fun x hx => hx.elim)
                  have hcnt0 := CNT.start (ks := (fun t => key (dist wl n) (nm t))) hCa hrowa
                  obtain ⟨gs2, hgs2⟩ : ∃ x, x = w6.heap.size := ⟨_, rfl⟩
                  rw [← hgs2] at hL7 hcnt0
                  have HGS2 : Hid (w6.heap.size ≤ gs2 ∧ gs2 ≠ bl ∧ gs2 ≠ bm) := ⟨by omega, fun e => by have := h6.old.1; omega, fun e => by have := h6.old.2.1; omega⟩
                  clear hgs2 c7 z7 hrowa hfra
                  have HCA : Hid _ := And.intro hCa hma
                  clear hCa hma
                  have c3 := hL7.c3
                  go_wp2_with (fail)
                  clear c3
                  go_loopg [207] (sumL L m) (fun gh i wr => ∃ t : Nat, t ≤ sumL L m ∧ gh = sumL L m - t ∧ i = .int .i64 t ∧ LS w6 bl bm (dist wl n) 1 (.slice aq n cq) (.slice ak (sumL L m) ck) (.slice (some ⟨gs, 0, none⟩) ((dist wl n).length + 1) Cw) vi vf (.slice (some ⟨gs2, 0, none⟩) ((dist wl n).length + 1) Ca) (.slice none 0 0) (.slice none 0 0) (.slice none 0 0) wr ∧ CNT wr gs2 Ca (dist wl n).length (fun t => key (dist wl n) (nm t)) t)
                  case atStart => exact ⟨0, Nat.zero_le _, rfl, rfl, hL7, hcnt0⟩
                  case round =>
                    clear hL7 hcnt0
                    obtain ⟨t, ht, rfl, rfl, hL, hcnt⟩ := hrel
                    by_cases hlt : t < sumL L m
                    · obtain ⟨qb, qo, hqb, hcell⟩ := (HD6.out wr hL.fr).1.2.cellAt (by omega)
                      subst hqb
                      have hcx := hcell t hlt
                      clear hcell
                      by_cases hmem : nm t ∈ dist wl n
                      · obtain ⟨kk, hkk⟩ : ∃ kk : Nat, key (dist wl n) (nm t) = (kk : Nat) := ⟨(key (dist wl n) (nm t)).toNat, by have := key_nonneg.2 hmem; omega⟩
                        have hkK : kk < (dist wl n).length := by have := key_lt (D := dist wl n) (x := nm t); omega
                        rw [hkk] at hcx
                        have HKK : Hid _ := hkk
                        clear hmem hkk
                        go_wp2_with (fail)
                        refine hcnt.count HKK.out hkK (by omega) (by omega) hL.c7 ?_
                        intro w8 hc8 hf8
                        have hL8 := hL.step hf8 (fun x hx => by subst hx; exact HGS2.out.1)
                        clear hcnt hL hf8 hcx
                        go_wp2_with (fail)
                        go_roundg (sumL L m - (t + 1))
                        case measure => omega
                        case rel => exact ⟨t + 1, by omega, rfl, by go_num, hL8, hc8⟩
                      · have hkk : key (dist wl n) (nm t) = -1 := key_none hmem
                        rw [hkk] at hcx
                        have hc8 : CNT wr gs2 Ca (dist wl n).length (fun t => key (dist wl n) (nm t)) (t + 1) := hcnt.skip (by show key (dist wl n) (nm t) < 0; omega)
                        clear hcnt hmem hkk
                        go_wp2_with (fail)
                        go_roundg (sumL L m - (t + 1))
                        case measure => omega
                        case rel => exact ⟨t + 1, by omega, rfl, by go_num, hL, hc8⟩
                    · have htn : t = sumL L m := by omega
                      subst htn
                      clear hlt ht
                      go_wp2_with (fail)
                      refine hcnt.lay vv (by omega) (by omega) HGS2.out.2.1 hL.c7 hL.c8 hL.c9 hL.fz ?_
                      intro vi2 vf2 gi2 gf2 w8 hS8 hg1 hg2 hf8
                      have hf8' : Fr (· = gs2) ((wr.setCell ⟨bl, 8, none⟩ vi2).setCell ⟨bl, 9, none⟩ vf2) w8 := hf8
                      have hL8 := ((hL.set8 vi2).set9 vf2).step hf8' (fun x hx => by subst hx; exact HGS2.out.1)
                      have hsw : w6.heap.size ≤ wr.heap.size := hL.fr.size
                      have hblw := hL.lt
                      have hbmw := hL.map.lt
                      have HGI2 : Hid ((w6.heap.size ≤ gi2 ∧ gi2 ≠ bl ∧ gi2 ≠ bm) ∧ (w6.heap.size ≤ gf2 ∧ gf2 ≠ bl ∧ gf2 ≠ bm)) := ⟨⟨by omega, by omega, by omega⟩, by omega, by omega, by omega⟩
                      have cq0 := (HD6.out w8 hL8.fr).1.1.1.2.1
                      clear hcnt hL hf8 hf8' hg1 hg2 hsw hblw hbmw
                      go_wp2_with (fail)
                      clear cq0
                      go_loopg [27, 226] m (fun gh tk i wr => ∃ r : Nat, r ≤ m ∧ gh = m - r ∧ i = .int .i64 r ∧ tk = .int .i64 (sumL L r : Nat) ∧ LS w6 bl bm (dist wl n) 1 (.slice aq n cq) (.slice ak (sumL L m) ck) (.slice (some ⟨gs, 0, none⟩) ((dist wl n).length + 1) Cw) vi vf (.slice (some ⟨gs2, 0, none⟩) ((dist wl n).length + 1) Ca) vi2 vf2 (.slice none 0 0) wr ∧ SLI wr gs2 Ca (dist wl n).length vi2 vf2 gi2 gf2 (fun t => key (dist wl n) (nm t)) vv (sumL L m) (sumL L r))
                      case atStart => exact ⟨0, Nat.zero_le _, rfl, rfl, rfl, hL8, hS8⟩
                      case round =>
                        clear hL8 hS8
                        obtain ⟨r, hr, rfl, rfl, rfl, hL, hS⟩ := hrel
                        by_cases hlt : r < m
                        · obtain ⟨pb, po, hpb, hcell⟩ := (HD6.out wr hL.fr).1.1.1.1.1.cellAt (by omega)
                          subst hpb
                          have hcx := hcell r hlt
                          obtain ⟨lb, lo, hlb, hcell2⟩ := (HD6.out wr hL.fr).1.1.1.1.2.2.2.1.cellAt (by omega)
                          subst hlb
                          have hcy := hcell2 r hlt
                          clear hcell hcell2
                          have hsr : sumL L (r + 1) ≤ sumL L m := sumL_mono (by omega)
                          simp only [sumL] at hsr
                          go_wp2_with (fail)
                          clear hcx hcy
                          go_loopg [27, 236] (L r) (fun gh tk i wr => ∃ j : Nat, j ≤ L r ∧ gh = L r - j ∧ i = .int .i64 j ∧ tk = .int .i64 (sumL L r + j : Nat) ∧ LS w6 bl bm (dist wl n) 1 (.slice aq n cq) (.slice ak (sumL L m) ck) (.slice (some ⟨gs, 0, none⟩) ((dist wl n).length + 1) Cw) vi vf (.slice (some ⟨gs2, 0, none⟩) ((dist wl n).length + 1) Ca) vi2 vf2 (.slice none 0 0) wr ∧ SLI wr gs2 Ca (dist wl n).length vi2 vf2 gi2 gf2 (fun t => key (dist wl n) (nm t)) vv (sumL L m) (sumL L r + j))
                          case atStart => exact ⟨0, Nat.zero_le _, rfl, rfl, rfl, hL, hS⟩
                          case round =>
                            clear hL hS
                            obtain ⟨j, hj, rfl, rfl, rfl, hL, hS⟩ := hrel
                            by_cases hlt2 : j < L r
                            · obtain ⟨qb, qo, hqb, hcell⟩ := (HD6.out wr hL.fr).1.2.cellAt (by omega)
                              subst hqb
                              have hcx := hcell (sumL L r + j) (by omega)
                              have hvv : Hid (av r = vv (sumL L r + j)) := (HN.out r j hlt hlt2).2.symm
                              have c3 := hL.c3
                              clear hcell
                              by_cases hmem : nm (sumL L r + j) ∈ dist wl n
                              · obtain ⟨kk, hkk⟩ : ∃ kk : Nat, key (dist wl n) (nm (sumL L r + j)) = (kk : Nat) := ⟨(key (dist wl n) (nm (sumL L r + j))).toNat, by have := key_nonneg.2 hmem; omega⟩
                                have hkK : kk < (dist wl n).length := by have := key_lt (D := dist wl n) (x := nm (sumL L r + j)); omega
                                rw [hkk] at hcx
                                have HKK : Hid _ := hkk
                                clear hmem hkk
                                go_wp2_with (fail)
                                refine hS.put (kk := kk) HKK.out hkK (by omega) (by omega) (by omega) HGI2.out.1.2.1 hL.c7 hL.c8 hL.c9 (av r) hvv.out ?_
                                intro i9 w9 hS9 hf9
                                have hL9 := hL.step hf9 (fun x hx => hx.elim (fun e => by subst e; exact HGI2.out.1.1) (fun e => by subst e; exact HGI2.out.2.1))
                                clear hS hL hf9 hcx c3
                                go_wp2_with (fail)
                                go_roundg (L r - (j + 1))
                                case measure => omega
                                case rel => exact ⟨j + 1, by omega, rfl, by go_num, by go_num, hL9, hS9⟩
                              · have hkk : key (dist wl n) (nm (sumL L r + j)) = -1 := key_none hmem
                                rw [hkk] at hcx
                                have hS9 : SLI wr gs2 Ca (dist wl n).length vi2 vf2 gi2 gf2 (fun t => key (dist wl n) (nm t)) vv (sumL L m) (sumL L r + j + 1) := hS.skip (by show key (dist wl n) (nm (sumL L r + j)) < 0; omega)
                                clear hS hmem hkk
                                go_wp2_with (fail)
                                go_roundg (L r - (j + 1))
                                case measure => omega
                                case rel => exact ⟨j + 1, by omega, rfl, by go_num, by go_num, hL, hS9⟩
                            · have hje : j = L r := by omega
                              have HJ : Hid (j = L r) := hje
                              clear hje
                              go_wp2_with (fail)
                              go_roundg (m - (r + 1))
                              case measure => omega
                              case rel => exact ⟨r + 1, by omega, rfl, by go_num, by rw [HJ.out]; rfl, hL, by rw [HJ.out] at hS; exact hS⟩
                        · skip
                          have hrm : m = r := by omega
                          subst hrm
                          clear hlt hr
                          obtain ⟨wX, hwX⟩ : ∃ x, x = wr := ⟨wr, rfl⟩
                          subst hwX
                          have HFX : Hid (Fr (fun x => x = bl ∨ x = bm) w0 wX) := HF6.out.trans hL.fr
                          have hX := hL.rebase
                          have HDX : Hid (∀ w', Fr (fun x => x = bl ∨ x = bm) wX w' → SLI w' gs2 Ca (dist wl n).length vi2 vf2 gi2 gf2 (fun t => key (dist wl n) (nm t)) vv (sumL L m) (sumL L m) ∧ SLI w' gs Cw (dist wl n).length vi vf gi gf (fun i => key (dist wl n) (wl i)) wv n n) :=
                            fun w' hf => ⟨hS.fr hf (fun e => e.elim HGS2.out.2.1 HGS2.out.2.2) (fun e => e.elim HGI2.out.1.2.1 HGI2.out.1.2.2) (fun e => e.elim HGI2.out.2.2.1 HGI2.out.2.2.2), (HD6.out w' (hL.fr.trans hf)).2⟩
                          clear hL hS HD6
                          have cX := hX.c10
                          have zX := hX.fz 10
                          go_wp2_with (fail)
                          clear cX zX
                          go_loopg [266] (dist wl n).length (fun gh i wr => ∃ k : Nat, k ≤ (dist wl n).length ∧ gh = (dist wl n).length - k ∧ i = .int .i64 k ∧ ∃ vs xs, LS wX bl bm (dist wl n) 1 (.slice aq n cq) (.slice ak (sumL L m) ck) (.slice (some ⟨gs, 0, none⟩) ((dist wl n).length + 1) Cw) vi vf (.slice (some ⟨gs2, 0, none⟩) ((dist wl n).length + 1) Ca) vi2 vf2 vs wr ∧ wr.ownsRow wX.heap.size 57 5 vs k xs ∧ QX xs k (fun k => cn (ky (fun t => key (dist wl n) (nm t)) k) (sumL L m)) (fun k => stt (fun t => key (dist wl n) (nm t)) (sumL L m) k) (fun k => cn (ky (fun i => key (dist wl n) (wl i)) k) n) (fun k => stt (fun i => key (dist wl n) (wl i)) n k) gi2 gi)
                          case atStart => exact ⟨0, Nat.zero_le _, rfl, rfl, _, [], hX.set10 _, World.ownsRow_nil _ _ _ _, QX.nil _ _ _ _ _ _⟩
                          case round =>
                            obtain ⟨k, hk, rfl, rfl, vs, xs, hL, hown, hQX⟩ := hrel
                            by_cases hlt : k < (dist wl n).length
                            · skip
                              obtain ⟨nA, hnA⟩ : ∃ x, x = cn (ky (fun t => key (dist wl n) (nm t)) k) (sumL L m) := ⟨_, rfl⟩
                              obtain ⟨nW, hnW⟩ : ∃ x, x = cn (ky (fun i => key (dist wl n) (wl i)) k) n := ⟨_, rfl⟩
                              have STEP : Hid (∀ wa wb : World, (LS wX bl bm (dist wl n) 1 (.slice aq n cq) (.slice ak (sumL L m) ck) (.slice (some ⟨gs, 0, none⟩) ((dist wl n).length + 1) Cw) vi vf (.slice (some ⟨gs2, 0, none⟩) ((dist wl n).length + 1) Ca) vi2 vf2 vs wa ∧ wa.ownsRow wX.heap.size 57 5 vs k xs) → Fr (fun _ => False) wa wb → (LS wX bl bm (dist wl n) 1 (.slice aq n cq) (.slice ak (sumL L m) ck) (.slice (some ⟨gs, 0, none⟩) ((dist wl n).length + 1) Cw) vi vf (.slice (some ⟨gs2, 0, none⟩) ((dist wl n).length + 1) Ca) vi2 vf2 vs wb ∧ wb.ownsRow wX.heap.size 57 5 vs k xs)) := fun wa wb ha hf => ⟨ha.1.step hf (fun x hx => hx.elim), hf.ownsRow ha.2 (fun _ _ h => h)⟩
                              have HA : Hid (∀ (wa : World) {R' : Ending → World → Prop}, (LS wX bl bm (dist wl n) 1 (.slice aq n cq) (.slice ak (sumL L m) ck) (.slice (some ⟨gs, 0, none⟩) ((dist wl n).length + 1) Cw) vi vf (.slice (some ⟨gs2, 0, none⟩) ((dist wl n).length + 1) Ca) vi2 vf2 vs wa ∧ wa.ownsRow wX.heap.size 57 5 vs k xs) → (∀ ao' C' wb, (0 < nA → ao' = some ⟨gi2, stt (fun t => key (dist wl n) (nm t)) (sumL L m) k, none⟩) → Hid (LS wX bl bm (dist wl n) 1 (.slice aq n cq) (.slice ak (sumL L m) ck) (.slice (some ⟨gs, 0, none⟩) ((dist wl n).length + 1) Cw) vi vf (.slice (some ⟨gs2, 0, none⟩) ((dist wl n).length + 1) Ca) vi2 vf2 vs wb ∧ wb.ownsRow wX.heap.size 57 5 vs k xs) → wb.cell? ⟨bl, 4, none⟩ = some (.slice (some ⟨gs, 0, none⟩) ((dist wl n).length + 1) Cw) → wb.cell? ⟨bl, 5, none⟩ = some vi → wb.cell? ⟨bl, 10, none⟩ = some vs → bl < wb.heap.size → R' (.returned (.slice ao' nA C')) wb) → Calls Try.prog 33 #[.agg #[(.slice (some ⟨gs2, 0, none⟩) ((dist wl n).length + 1) Ca), vi2], .int .i64 k] wa R') := by
                                intro wa R' hS hR
                                subst hnA
                                refine (HDX.out wa hS.1.fr).1.ofHdr hlt (by omega) ?_
                                intro ao' C' wb h1 h2
                                have hS2 := STEP.out wa wb hS h2
                                exact hR ao' C' wb h1 hS2 hS2.1.c4 hS2.1.c5 hS2.1.c10 hS2.1.lt
                              have HB : Hid (∀ (wa : World) {R' : Ending → World → Prop}, (LS wX bl bm (dist wl n) 1 (.slice aq n cq) (.slice ak (sumL L m) ck) (.slice (some ⟨gs, 0, none⟩) ((dist wl n).length + 1) Cw) vi vf (.slice (some ⟨gs2, 0, none⟩) ((dist wl n).length + 1) Ca) vi2 vf2 vs wa ∧ wa.ownsRow wX.heap.size 57 5 vs k xs) → (∀ ao' C' wb, (0 < nW → ao' = some ⟨gi, stt (fun i => key (dist wl n) (wl i)) n k, none⟩) → Hid (LS wX bl bm (dist wl n) 1 (.slice aq n cq) (.slice ak (sumL L m) ck) (.slice (some ⟨gs, 0, none⟩) ((dist wl n).length + 1) Cw) vi vf (.slice (some ⟨gs2, 0, none⟩) ((dist wl n).length + 1) Ca) vi2 vf2 vs wb ∧ wb.ownsRow wX.heap.size 57 5 vs k xs) → wb.cell? ⟨bl, 10, none⟩ = some vs → bl < wb.heap.size → R' (.returned (.slice ao' nW C')) wb) → Calls Try.prog 33 #[.agg #[(.slice (some ⟨gs, 0, none⟩) ((dist wl n).length + 1) Cw), vi], .int .i64 k] wa R') := by
                                intro wa R' hS hR
                                subst hnW
                                refine (HDX.out wa hS.1.fr).2.ofHdr hlt (by omega) ?_
                                intro ao' C' wb h1 h2
                                have hS2 := STEP.out wa wb hS h2
                                exact hR ao' C' wb h1 hS2 hS2.1.c10 hS2.1.lt
                              have HNA : Hid _ := hnA
                              have HNW : Hid _ := hnW
                              clear hnA hnW
                              have HQX : Hid _ := hQX
                              clear hQX
                              go_upto_region 64 with (fail)
                              refine region64 wX wr bl bm gs gs2 (dist wl n).length Cw Ca k nA nW (dist wl n) (.slice aq n cq) (.slice ak (sumL L m) ck) vi vf vi2 vf2 vs xs (fun ao => 0 < nA → ao = some ⟨gi2, stt (fun t => key (dist wl n) (nm t)) (sumL L m) k, none⟩) (fun ao => 0 < nW → ao = some ⟨gi, stt (fun i => key (dist wl n) (wl i)) n k, none⟩) (by omega) hL hown HA.out HB.out _ _ _ _ _ _ _ _ _ _ _ _ _ _ _ _ _ _ _ _ _ _ _ _ _ _ _ _ _ _ _ _ _ _ _ _ _ _ _ _ _ _ _ _ _ _ _ _ _ _ _ _ _ _ _ _ _ _ _ _ _ _ _ _ _ _ _ _ _ _ _ _ _ _ _ _ _ _ _ _ _ _ _ _ _ _ _ _ _ _ _ _ _ _ _ _ _ _ _ _ _ _ _ _ _ _ _ _ _ _ _ _ _ _ _ _ _ _ _ _ _ _ _ _ _ _ _ _ _ _ _ _ _ _ _ _ _ _ _ _ _ _ _ _ _ _ _ _ _ _ _ _ _ _ _ _ _ _ _ _ _ _ _ _ _ _ _ _ _ _ _ _ _ _ _ _ _ _ _ _ _ _ _ _ _ _ _ _ _ _ _ _ _ _ _ _ _ _ _ _ _ _ _ _ _ _ _ _ _ _ _ _ _ _ _ _ _ _ _ _ _ _ _ _ _ _ _ _ _ _ _ _ _ _ _ _ _ _ _ _ _ _ _ _ _ _ _ _ _ _ _ _ _ _ _ _ _ _ _ _ _ _ _ _ _ _ _ _ _ _ _ _ _ _ _ _ _ _ _ _ _ _ _ _ _ _ _ _ _ _ _ _ _ _ _ _ ?_
                              intro ao1 C1 ao2 C2 g13 cap13 w13 y269 y270 y271 y272 y273 y274 y275 y276 y277 y278 y279 y280 y281 y282 y283 y284 y285 y286 y287 y288 y289 y290 y291 y292 hA1 hB1 hL13 hO13
                              go_wp2_with (fail)
                              go_roundg ((dist wl n).length - (k + 1))
                              case measure => omega
                              case rel =>
                                refine ⟨k + 1, by omega, rfl, by go_num, _, _, hL13.set10 _, ownsRow_setBl hO13 hL.old.1 _ _, ?_⟩
                                rw [HNA.out, HNW.out]
                                exact QX.snoc HQX.out (by have h := hA1; rw [HNA.out] at h; exact h) (by have h := hB1; rw [HNW.out] at h; exact h)
                            · have hkn : k = (dist wl n).length := by omega
                              have HKN : Hid _ := hkn
                              clear hkn
                              have cT := hL.c10
                              go_wp2_with (fail)
                              refine HR.out _ _ ?_ (HFX.out.trans hL.fr)
                              have hown' := hown
                              have hQX' := hQX
                              rw [HKN.out] at hown' hQX'
                              refine hQX'.qs hown' (fun q ao1 C1 ao2 C2 hq h1 h2 => ?_)
                              exact ⟨(HDX.out _ hL.fr).1.grp hq h1, (HDX.out _ hL.fr).2.grp hq h2⟩
end Go.Proofs.Qxb6600184a
