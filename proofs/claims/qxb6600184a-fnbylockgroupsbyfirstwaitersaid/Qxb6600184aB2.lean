import Derived.Test.Qxb6600184aB1
namespace Go.Proofs.Qxb6600184a
set_option linter.unusedVariables false
set_option linter.unusedSimpArgs false
open Go.RowKit
attribute [local go_sem ↓] Go.wp_at_zero Go.wp_at_succ

theorem Fr.both {a b : World} (h : Fr (fun _ => False) a b) (p : Addr) (v : Value) : Fr (fun _ => False) (a.setCell p v) (b.setCell p v) :=
  ⟨h.os, h.tape, h.output, by simpa [World.setCell] using h.size, fun x hx _ => by
    have hx' : x < a.heap.size := by simpa [World.setCell] using hx
    have := h.block x hx' (fun h => h)
    by_cases e : x = p.block
    · subst e; simp [World.setCell, Array.getElem?_modify, this]
    · rw [heap_setCell_other _ _ _ _ e, heap_setCell_other _ _ _ _ e, this]⟩

theorem Fr.bothS {S : Nat → Prop} {a b : World} (h : Fr S a b) (p : Addr) (v : Value) : Fr S (a.setCell p v) (b.setCell p v) :=
  ⟨h.os, h.tape, h.output, by simpa [World.setCell] using h.size, fun x hx hs => by
    have hx' : x < a.heap.size := by simpa [World.setCell] using hx
    have := h.block x hx' hs
    by_cases e : x = p.block
    · subst e; simp [World.setCell, Array.getElem?_modify, this]
    · rw [heap_setCell_other _ _ _ _ e, heap_setCell_other _ _ _ _ e, this]⟩

set_option maxRecDepth 100000 in
set_option maxHeartbeats 8000000 in
theorem layOut31 (bl off gs n C N : Nat) (ks : Nat → Int) (f0 : Nat → Int) (hn : n ≤ 65536) (hN : N ≤ 65536) (hC : n + 1 ≤ C) (w : World) (ne : gs ≠ bl)
    (hcs : w.cell? ⟨bl, off, none⟩ = some (.slice (some ⟨gs, 0, none⟩) (n + 1) C)) (hci : w.cell? ⟨bl, off + 1, none⟩ = some (.slice none 0 0)) (hcf : w.cell? ⟨bl, off + 2, none⟩ = some (.slice none 0 0))
    (hff : ∀ j, w.frozen? ⟨bl, j, none⟩ = false) (hrow : w.rowIs gs 3 C (fun j => .int .i64 (f0 j))) (h0 : f0 0 = 0) (hf0 : ∀ k, k < n → f0 (k + 1) = (cn (ky ks k) N : Nat)) {R : Ending → World → Prop}
    (hR : ∀ (vi vf : Value) (gi gf : Nat) (f : Nat → Int) (w' : World), w'.rowIs gs 3 C (fun j => .int .i64 (f j)) → (∀ k, k ≤ n → f k = (stt ks N k : Nat)) → RowV w' vi (stt ks N n) gi (fun _ => 0) → RowV w' vf n gf (fun _ => 0) →
      w.heap.size ≤ gi → w.heap.size ≤ gf → gi ≠ gf → Fr (· = gs) ((w.setCell ⟨bl, off + 1, none⟩ vi).setCell ⟨bl, off + 2, none⟩ vf) w' → R (.returned (.tuple #[])) w') :
    Calls Try.prog 31 #[.pointer (some ⟨bl, off, none⟩)] w R := by
  have HR : Hid _ := hR
  clear hR
  have hbl := World.block_lt_of_cell? w _ hcs
  go_enter Try.func31, Try.ntmps31
  go_wp2_with (fail)
  go_loopg [12] n (fun g i wr => ∃ k : Nat, k ≤ n ∧ g = n - k ∧ i = .int .i64 k ∧ Fr (· = gs) w wr ∧ ∃ f : Nat → Int, wr.rowIs gs 3 C (fun j => .int .i64 (f j)) ∧ (∀ j, j ≤ k → f j = (stt ks N j : Nat)) ∧ (∀ j, k ≤ j → j < n → f (j + 1) = (cn (ky ks j) N : Nat)))
  case atStart =>
    refine ⟨0, Nat.zero_le _, rfl, rfl, Fr.refl _ _, f0, hrow, fun j hj => ?_, fun j _ hj => hf0 j hj⟩
    have : j = 0 := by omega
    subst this
    rw [h0]; rfl
  case round =>
    obtain ⟨k, hk, rfl, rfl, hfr, f, hrow2, hf1, hf2⟩ := hrel
    have c1 := hfr.cell (p := ⟨bl, off, none⟩) (fun e => ne e.symm) hcs
    by_cases hlt : k < n
    · have c2 := hrow2.cell (i := k + 1) (by omega)
      have c3 := hrow2.cell (i := k) (by omega)
      have c4 := hrow2.frozen (k + 1)
      rw [hf2 k (Nat.le_refl _) hlt] at c2
      rw [hf1 k (Nat.le_refl _)] at c3
      have b1 := stt_le ks N k
      have b2 := cn_le (ky ks k) N
      have HI : Hid (∀ v, v = ((cn (ky ks k) N : Nat) : Int) + (stt ks N k : Nat) → ∃ f : Nat → Int, (wr.setCell ⟨gs, k + 1, none⟩ (.int .i64 v)).rowIs gs 3 C (fun j => .int .i64 (f j)) ∧ (∀ j, j ≤ k + 1 → f j = (stt ks N j : Nat)) ∧ (∀ j, k + 1 ≤ j → j < n → f (j + 1) = (cn (ky ks j) N : Nat))) := by
        intro v hv
        refine ⟨fun j => if j = k + 1 then v else f j, (hrow2.set (k + 1) _).congr (fun j _ => by dsimp only; split <;> rfl), fun j hj => ?_, fun j hj hjn => ?_⟩
        · by_cases e : j = k + 1
          · subst e; dsimp only; rw [if_pos rfl, hv]; simp only [stt]; omega
          · dsimp only; rw [if_neg e]; exact hf1 j (by omega)
        · dsimp only; rw [if_neg (by omega)]; exact hf2 j (by omega) hjn
      generalize cn (ky ks k) N = x1 at c2 b2 HI
      generalize stt ks N k = x2 at c3 b1 HI
      have i1 : (0 : Int) ≤ (k : Int) := by omega
      have i2 : (k : Int) < (n : Int) := by omega
      have i3 : (k : Int) < (n : Int) + 1 := by omega
      have i4 : (0 : Int) ≤ (k : Int) + 1 := by omega
      have i5 : (k : Int) + 1 < (n : Int) + 1 := by omega
      have i6 : IntKind.i64.wrap ((k : Int) + 1) = (k : Int) + 1 := by rw [IntKind.wrap_i64]; omega
      have i7 : ((k : Int) + 1).toNat = k + 1 := by omega
      have HF : Hid (Fr (· = gs) w wr) := hfr
      clear hf1 hf2 hrow2 hfr hrow hcs hci hcf hff h0 hf0
      go_upto_region 4 with (fail)
      go_region
      go_wp2_with (fail)
      go_roundg (n - (k + 1))
      case measure => omega
      case rel =>
        refine ⟨k + 1, by omega, rfl, by go_num, ?_, HI.out _ rfl⟩
        exact HF.out.trans (Fr.setCell wr ⟨gs, k + 1, none⟩ _).drew
    · have hkn : k = n := by omega
      subst hkn
      have ci := hfr.cell (p := ⟨bl, off + 1, none⟩) (fun e => ne e.symm) hci
      have cf := hfr.cell (p := ⟨bl, off + 2, none⟩) (fun e => ne e.symm) hcf
      have eb := hfr.block bl hbl (fun e => ne e.symm)
      have ff1 : wr.frozen? ⟨bl, off + 1, none⟩ = false := (World.frozen?_of_block (a := ⟨bl, off + 1, none⟩) eb).trans (hff _)
      have ff2 : wr.frozen? ⟨bl, off + 2, none⟩ = false := (World.frozen?_of_block (a := ⟨bl, off + 2, none⟩) eb).trans (hff _)
      have cm := hrow2.cell (i := k) (by omega)
      rw [hf1 k (Nat.le_refl _)] at cm
      have b1 := stt_le ks N k
      have hbl2 : bl < wr.heap.size := Nat.lt_of_lt_of_le hbl hfr.size
      have hgs2 : gs < wr.heap.size := hrow2.lt
      have hsz := hfr.size
      have HF : Hid _ := hfr
      have HI : Hid _ := And.intro hrow2 hf1
      have i1 : (0 : Int) ≤ (k : Int) := by omega
      have i2 : (k : Int) < (k : Int) + 1 := by omega
      clear hf1 hf2 hrow2 hfr hrow hcs hci hcf hff h0 hf0
      go_upto_region 6 with (fail)
      generalize hMM : stt ks N k = M at cm b1
      go_cut [] (fun wd => ∃ vi gi, RowV wd vi M gi (fun _ => 0) ∧ wr.heap.size ≤ gi ∧ gi ≠ wd.heap.size ∧ Fr (fun _ => False) (wr.setCell ⟨bl, off + 1, none⟩ vi) wd)
      case first =>
        have HM : Hid (∀ C2 w2, M ≤ C2 → C2 ≤ maxLen → w2.rowIs wr.heap.size 3 C2 (fun _ => .int .i64 0) → Fr (fun _ => False) wr w2 → ∃ vi gi, RowV (w2.setCell ⟨bl, off + 1, none⟩ (.slice (some ⟨wr.heap.size, 0, none⟩) M C2)) vi M gi (fun _ => 0) ∧ wr.heap.size ≤ gi ∧ gi ≠ (w2.setCell ⟨bl, off + 1, none⟩ (.slice (some ⟨wr.heap.size, 0, none⟩) M C2)).heap.size ∧ Fr (fun _ => False) (wr.setCell ⟨bl, off + 1, none⟩ vi) (w2.setCell ⟨bl, off + 1, none⟩ (.slice (some ⟨wr.heap.size, 0, none⟩) M C2))) :=
          fun C2 w2 q1 q2 q3 q4 => ⟨_, wr.heap.size, .inr ⟨C2, q1, q2, rfl, q3.setOther (fun e => by have e' : wr.heap.size = bl := e; omega) _⟩, Nat.le_refl _, by have := q3.lt; simp [World.setCell]; omega, q4.both _ _⟩
        by_cases hM : M = 0
        · subst hM
          have e1 : (wr.setCell ⟨bl, off + 1, none⟩ (.slice none 0 0)).cell? ⟨bl, off, none⟩ = some (.slice (some ⟨gs, 0, none⟩) (k + 1) C) := (World.cell?_setCell_other wr ⟨bl, off + 1, none⟩ ⟨bl, off, none⟩ _ (by simp)).trans c1
          have e2 : (wr.setCell ⟨bl, off + 1, none⟩ (.slice none 0 0)).cell? ⟨gs, k, none⟩ = some (.int .i64 0) := (World.cell?_setCell_other wr ⟨bl, off + 1, none⟩ ⟨gs, k, none⟩ _ (by simp [Ne.symm ne])).trans cm
          have e3 : (wr.setCell ⟨bl, off + 1, none⟩ (.slice none 0 0)).cell? ⟨bl, off + 1, none⟩ = some (.slice none 0 0) := World.cell?_setCell_same wr ⟨bl, off + 1, none⟩ _ ci
          go_region_held3 (fun w' => w'.cell? ⟨bl, off, none⟩ = some (.slice (some ⟨gs, 0, none⟩) (k + 1) C) ∧ w'.cell? ⟨gs, k, none⟩ = some (.int .i64 0) ∧ w'.frozen? ⟨bl, off + 1, none⟩ = false ∧ w'.cell? ⟨bl, off + 1, none⟩ = some (.slice none 0 0)) (go_keep) ((go_at_call 35; refine grow35_zero _ ?_))
          all_goals (go_wp2_with (fail))
          all_goals (go_meet)
          case rel => exact ⟨_, wr.heap.size + 1, .inl ⟨rfl, rfl⟩, by omega, by simp [World.setCell], (Fr.refl _ _).drew⟩
        · go_region_with ((go_at_call 35; refine grow35 M (by omega) (by omega) _ ?_; intro C2 w2 hC2 hm2 hr2 hf2; have HP2 : Hid _ := HM.out C2 w2 hC2 hm2 hr2 ⟨hf2.os, hf2.tape, hf2.output, hf2.size, hf2.block⟩; have k1 := hf2.cell (fun h => h) c1; have k2 := hf2.cell (fun h => h) cm; have k4 := hf2.cell (fun h => h) ci; have k3 := (World.frozen?_of_block (a := ⟨bl, off + 1, none⟩) (hf2.block bl hbl2 (fun h => h))).trans ff1))
          all_goals
            go_wp2_with (fail)
            go_meet
            case rel => exact Hid.out (by assumption)
      case rest =>
        obtain ⟨vi, gi, hvi, hgi, hgi2, hf3⟩ := hcut
        have cf' : (wr.setCell ⟨bl, off + 1, none⟩ vi).cell? ⟨bl, off + 2, none⟩ = some (.slice none 0 0) := (World.cell?_setCell_other wr ⟨bl, off + 1, none⟩ ⟨bl, off + 2, none⟩ _ (by simp)).trans cf
        have cf3 := hf3.cell (fun h => h) cf'
        have hblw : bl < wc.heap.size := World.block_lt_of_cell? wc _ cf3
        have ff3 : wc.frozen? ⟨bl, off + 2, none⟩ = false := by
          rw [World.frozen?_of_block (a := ⟨bl, off + 2, none⟩) (hf3.block bl (by simpa [World.setCell] using hbl2) (fun h => h))]
          simpa using ff2
        have HFIN : Hid (∀ vf gf w', w'.rowIs gs 3 C (fun j => .int .i64 (f j)) → RowV w' vi M gi (fun _ => 0) → RowV w' vf k gf (fun _ => 0) → wr.heap.size ≤ gf → gi ≠ gf → Fr (fun _ => False) (wc.setCell ⟨bl, off + 2, none⟩ vf) w' → R (.returned (.tuple #[])) w') := by
          intro vf gf w' p1 p2 p3 p4 p5 p6
          refine HR.out vi vf gi gf f w' p1 HI.out.2 (by rw [hMM]; exact p2) p3 (by omega) (by omega) p5 ?_
          have hA : Fr (· = gs) (w.setCell ⟨bl, off + 1, none⟩ vi) (wr.setCell ⟨bl, off + 1, none⟩ vi) := HF.out.bothS _ _
          have hB : Fr (· = gs) ((w.setCell ⟨bl, off + 1, none⟩ vi).setCell ⟨bl, off + 2, none⟩ vf) (wc.setCell ⟨bl, off + 2, none⟩ vf) := (hA.trans (hf3.mono (fun x hx => hx.elim))).bothS _ _
          exact hB.trans (p6.mono (fun x hx => hx.elim))
        have hrow3 : wc.rowIs gs 3 C (fun j => .int .i64 (f j)) := hf3.rowIs (HI.out.1.setOther ne _) (fun h => h)
        have hszc : wr.heap.size ≤ wc.heap.size := by have := hf3.size; simpa [World.setCell] using this
        by_cases hk0 : k = 0
        · subst hk0
          have hcl : ∀ ty, (Builtin.clear_ #[22] ty #[.slice none 0 0]).run Try.prog (wc.setCell ⟨bl, off + 2, none⟩ (.slice none 0 0)) = .ok (.tuple #[]) (wc.setCell ⟨bl, off + 2, none⟩ (.slice none 0 0)) := fun ty => by simp [Builtin.clear_, run_underlying Try.underlying22]
          have HQ : Hid (R (.returned (.tuple #[])) (wc.setCell ⟨bl, off + 2, none⟩ (.slice none 0 0))) := HFIN.out _ (gi + 1) _ (hrow3.setOther ne _) (hvi.fr (Fr.setCell wc ⟨bl, off + 2, none⟩ _) (fun e => by have e' : gi = bl := e; omega)) (.inl ⟨rfl, rfl⟩) (by omega) (by omega) (Fr.refl _ _)
          go_wp2_with (fail)
          refine grow35_zero _ ?_
          go_wp2_with (simp only [hcl])
          go_end0
          exact HQ.out
        · go_wp2_with (fail)
          refine grow35 k (by omega) (by omega) _ ?_
          intro C4 w4 hC4 hm4 hr4 hf4
          have hm' := hm4
          unfold maxLen at hm'
          have g1 := hf4.cell (fun h => h) cf3
          have g2 : w4.frozen? ⟨bl, off + 2, none⟩ = false := (World.frozen?_of_block (a := ⟨bl, off + 2, none⟩) (hf4.block bl hblw (fun h => h))).trans ff3
          have hrow2 : (w4.setCell ⟨bl, off + 2, none⟩ (.slice (some ⟨wc.heap.size, 0, none⟩) k C4)).rowIs wc.heap.size 3 C4 (fun _ => .int .i64 0) := hr4.setOther (fun e => by have e' : wc.heap.size = bl := e; omega) _
          have hcl : ∀ ty, (Builtin.clear_ #[22] ty #[.slice (some ⟨wc.heap.size, 0, none⟩) k C4]).run Try.prog (w4.setCell ⟨bl, off + 2, none⟩ (.slice (some ⟨wc.heap.size, 0, none⟩) k C4)) = .ok (.tuple #[]) ((w4.setCell ⟨bl, off + 2, none⟩ (.slice (some ⟨wc.heap.size, 0, none⟩) k C4)).setCells wc.heap.size 0 (List.replicate k (.int .i64 0))) :=
            fun ty => Lib.run_clear_slice _ 22 3 ty (.int .i64 0) Try.underlying22 zero3 rfl rfl wc.heap.size 0 k C4 (by omega) (fun j hj => by rw [Nat.zero_add, hrow2.cell (by omega)]; rfl) (fun j hj => by rw [Nat.zero_add]; exact hrow2.frozen _)
          have hS : Fr (· = wc.heap.size) (w4.setCell ⟨bl, off + 2, none⟩ (.slice (some ⟨wc.heap.size, 0, none⟩) k C4)) ((w4.setCell ⟨bl, off + 2, none⟩ (.slice (some ⟨wc.heap.size, 0, none⟩) k C4)).setCells wc.heap.size 0 (List.replicate k (.int .i64 0))) := Fr.setCells _ _ _ _
          have HQ : Hid (R (.returned (.tuple #[])) ((w4.setCell ⟨bl, off + 2, none⟩ (.slice (some ⟨wc.heap.size, 0, none⟩) k C4)).setCells wc.heap.size 0 (List.replicate k (.int .i64 0)))) := by
            refine HFIN.out _ wc.heap.size _ ?_ ?_ (.inr ⟨C4, hC4, hm4, rfl, rowIs_wipe _ _ hrow2⟩) hszc hgi2 ?_
            · exact hS.rowIs ((hf4.rowIs hrow3 (fun h => h)).setOther ne _) (fun e => by have e' : gs = wc.heap.size := e; omega)
            · exact ((hvi.fr hf4 (fun h => h)).fr (Fr.setCell w4 ⟨bl, off + 2, none⟩ _) (fun e => by have e' : gi = bl := e; omega)).fr hS (fun e => hgi2 e)
            · exact (hf4.both _ _).step hS (fun x hx => .inr (by subst hx; simp [World.setCell]))
          clear hr4 hf4 hrow2 hS HFIN hrow3 hvi
          go_wp2_with (simp only [hcl])
          go_end0
          exact HQ.out
end Go.Proofs.Qxb6600184a
