import Derived.Test.Qxb6001561aZ0
import Derived.Test.Qxb6001561aR1
namespace Go.Proofs.Qxb6001561a
set_option linter.unusedVariables false
set_option linter.unusedSimpArgs false
open Go.RowKit Go.Maps

theorem OC.drew {E : Env} {H : Hist} {w : World} (h : OC E H w) : OC E H w.drew := ⟨h.bel.drew, h.ne, h.geh, h.gec, h.c, h.high⟩

theorem OC.c6 {E : Env} {H : Hist} {w : World} (h : OC E H w) : w.cell? ⟨E.bc, 6, none⟩ = some (.slice (some ⟨E.bhigh, 0, none⟩) H.n H.n) := by
  rw [cell_of_row w _ _ _ _ _ h.c]; rfl

theorem agg_oneCell (p : Int) : ∀ u ∈ ([.int .u64 0, .int .i64 0, .int .i64 p] : List Value), u.oneCell' = true := by
  intro u hu
  simp only [List.mem_cons, List.not_mem_nil, or_false] at hu
  rcases hu with rfl | rfl | rfl <;> rfl

/-- how far each row has come -/
def curf (src : Nat → List Nat) (t u : Nat) (j : Nat) : Nat := if j < t then (src j).length else if j = t then u else 0

theorem TI.app2 {w wr : World} {B n t u p : Nat} {src : Nat → List Nat} {tv : Nat → Value} (h : TI w B n src (curf src t u) tv wr) (ht : t < n) (hu : u < (src t).length) (hp : p = (src t).getD u 0) {o : Obj} {w1 : World} {g cap : Nat}
    (hgrow : (wr.alloc o).grownBy w1 (tv t).ownBlock) (hown : w1.ownsRow (B + 1) 49 3 (.slice (some ⟨g, 0, none⟩) (u + 1) cap) (u + 1) (vpV ((src t).take u) ++ [.int .u64 0, .int .i64 0, .int .i64 (p : Nat)]))
    (hat : (tv t).ownBlock = some g ∨ g = (wr.alloc o).heap.size) :
    (∃ tv', TI w B n src (curf src t (u + 1)) tv' (w1.setCell ⟨B, t, none⟩ (.slice (some ⟨g, 0, none⟩) (u + 1) cap))) ∧ w1.cell? ⟨B, t, none⟩ = some (tv t) ∧ w1.frozen? ⟨B, t, none⟩ = false := by
  have hgr : wr.grownBy w1 (tv t).ownBlock := (World.grownBy_alloc wr o _).trans hgrow
  have hct : curf src t u t = u := by simp [curf]
  have hl : ((src t).take u).length = u := by simp; omega
  have hat' : (tv t).ownBlock = some g ∨ wr.heap.size ≤ g := by
    rcases hat with e | e
    · exact .inl e
    · exact .inr (by rw [e]; simp)
  have hA := h.app ht (by rw [hct]; exact hu) (g := g) (cap := cap) hgr (by rw [hct, hl, ← hp]; exact hown) hat'
  rw [hct, hl] at hA
  refine ⟨⟨_, hA.congr (fun j _ => ?_)⟩, h.cellB ht hgr⟩
  by_cases e : j = t
  · subst e; simp [curf, upd_same]
  · rw [upd_other _ _ e]; simp [curf, e]

theorem slAt_ord {w : World} {base b n : Nat} {l : List Nat} (h : w.ownsRow base 3 1 (.slice (some ⟨b, 0, none⟩) l.length n) l.length (intsV l)) : SlAt w (.slice (some ⟨b, 0, none⟩) l.length n) l.length (fun t => .int .i64 (l.getD t 0 : Nat)) := by
  refine ⟨_, _, rfl, fun _ => ⟨b, 0, rfl, fun t ht => ?_⟩⟩
  rw [Nat.zero_add, h.cellAt t (by omega), intsV_getElem? _ _ ht]

theorem below_two {w wr w' : World} (h : Below w.heap.size w wr) (h2 : Below wr.heap.size wr w') : Below w.heap.size w w' := h.trans (h2.mono h.size)

/-- the environment of order as ZZOrder lays it -/
def zEnv (w wr : World) (bops bseqs bsess bplace : Nat) (sv tv : Nat → Value) : Env :=
  { wp := wr, bops := bops, bseqs := bseqs, bsess := bsess, bplace := bplace, bsrc := w.heap.size, sv := sv, tv := tv, bhigh := wr.heap.size, bc := wr.heap.size + 1, bo := 0, bnext := 0, btak := 0, bmap := 0, bord := 0 }

theorem zEnv_stat {H : Hist} {w wr : World} {bops bseqs bsess bplace bsi : Nat} {sv tv : Nat → Value} {A : Nat → Option Addr} {C : Nat → Nat} (hL : Laid w H bops bseqs bsess bplace bsi sv A C) (hbT : Below w.heap.size w wr) (hrowB : wr.rowIs w.heap.size 47 H.n tv) (hVp : ∀ j, j < H.n → VpAt wr (tv j) (H.src j)) :
    Stat (zEnv w wr bops bseqs bsess bplace sv tv) H :=
  ⟨fun j hj => ⟨cell_below (B := 0) hbT (hL.ops j hj).1, cell_below (B := 0) hbT (hL.ops j hj).2⟩, fun q hq => cell_below (B := 0) hbT (hL.seqs q hq), fun q hq => (hL.seq q hq).below hbT, fun j hj => cell_below (B := 0) hbT (hL.sess j hj), fun j hj => cell_below (B := 0) hbT (hL.place j hj), fun _ hj => hrowB.cell hj, hVp⟩

theorem zEnv_oc (H : Hist) (w wr : World) (bops bseqs bsess bplace : Nat) (sv tv : Nat → Value) :
    OC (zEnv w wr bops bseqs bsess bplace sv tv) H ((wr.alloc (.cells (madeCells #[.int .u64 0] H.n) 40)).alloc (.cells #[.slice (some ⟨bops, 0, none⟩) H.n H.n, .slice (some ⟨bseqs, 0, none⟩) H.k H.k, .map none, .slice (some ⟨bsess, 0, none⟩) H.n H.n, .slice (some ⟨bplace, 0, none⟩) H.n H.n, .slice (some ⟨w.heap.size, 0, none⟩) H.n H.n, .slice (some ⟨wr.heap.size, 0, none⟩) H.n H.n] 53)) := by
  refine ⟨((Below.refl _ _).alloc (Nat.le_refl _) _).alloc (by simp [zEnv]) _, by simp [zEnv], by simp [zEnv], by simp [zEnv], ?_, ?_⟩
  · have h : wr.heap.size + 1 = (wr.alloc (.cells (madeCells #[.int .u64 0] H.n) 40)).heap.size := by simp
    simp only [zEnv]
    rw [h, Go.Deep.blk_alloc_new]
  · refine (World.rowIs_made _ _ _ _).of_block (Go.Deep.blk_alloc_lt _ _ _ ?_)
    simp [zEnv]

set_option maxRecDepth 100000 in
set_option maxHeartbeats 4000000 in
theorem zzorder14 {H : Hist} {w : World} {bops bseqs bsess bplace bsi : Nat} {sv : Nat → Value} {A : Nat → Option Addr} {C : Nat → Nat} (hH : HistOK H) (hL : Laid w H bops bseqs bsess bplace bsi sv A C) {J : St → List Nat → Prop} (hJ : Inv H J) {R : Ending → World → Prop}
    (hR : ∀ st vo bh w', J st [] → WF H st 0 → (∀ s, s < H.k → ¬ st.next s < (H.seq s).length) → SlAt w' vo st.ord.length (fun t => .int .i64 (st.ord.getD t 0 : Nat)) → w'.rowIs bh 40 H.n (fun j => .int .u64 (st.high j)) → Below w.heap.size w w' →
      R (.returned (.tuple #[vo, .slice (some ⟨bh, 0, none⟩) H.n H.n])) w') :
    Calls Try.prog 14 #[.slice (some ⟨bops, 0, none⟩) H.n H.n, .slice (some ⟨bseqs, 0, none⟩) H.k H.k, .slice (some ⟨bsess, 0, none⟩) H.n H.n, .slice (some ⟨bplace, 0, none⟩) H.n H.n, .slice (some ⟨bsi, 0, none⟩) H.n H.n] w R := by
  have HR : Hid _ := hR
  clear hR
  have hn20 := hH.n20
  have hkn := hH.kn
  have mk1 := run_make_row' (P := Try.prog) 46 47 (.slice none 0 0) 24 Try.underlying46 Try.info47 rfl .i64 .i64 H.n (by omega) (by omega)
  have mk2 := run_make_row' (P := Try.prog) 24 40 (.int .u64 0) 8 Try.underlying24 Try.info40 rfl .i64 .i64 H.n (by omega) (by omega)
  obtain ⟨i0, hi0, hz0, hz1, hz2⟩ := info_parts Try.info49
  go_enter Try.func14, Try.ntmps14
  go_wp2
  clear mk1
  go_loopg [22] H.n (fun g iv wr => ∃ (t : Nat) (tv : Nat → Value), t ≤ H.n ∧ g = H.n - t ∧ iv = .int .i64 t ∧ TI w w.heap.size H.n H.src (curf H.src t 0) tv wr)
  case atStart =>
    refine ⟨0, fun _ => .slice none 0 0, Nat.zero_le _, rfl, rfl, (Below.refl _ _).alloc (Nat.le_refl _) _, by simp, World.rowIs_made _ _ _ _, fun j hj => ?_, fun p q _ _ _ => .inl rfl⟩
    have : curf H.src 0 0 j = 0 := by simp [curf]
    rw [this, List.take_zero]
    exact World.ownsRow_nil _ _ _ _
  case round =>
    obtain ⟨t, tv, ht, rfl, rfl, hT⟩ := hrel
    by_cases hlt : t < H.n
    · have x1 : wr.cell? ⟨bsi, t, none⟩ = some (.slice (A t) (H.src t).length (C t)) := cell_below (B := 0) hT.bel (hL.srcs t hlt)
      obtain ⟨ao, cap, he, hc⟩ := hL.src t hlt
      have hln := hH.srcLen t hlt
      have hltI : (t : Int) < H.n := by omega
      rw [he] at x1
      clear he
      go_wp2
      clear x1
      go_loopg [30] (H.src t).length (fun g iv wr => ∃ (u : Nat) (tv : Nat → Value), u ≤ (H.src t).length ∧ g = (H.src t).length - u ∧ iv = .int .i64 u ∧ TI w w.heap.size H.n H.src (curf H.src t u) tv wr)
      case atStart =>
        exact ⟨0, tv, Nat.zero_le _, rfl, rfl, hT⟩
      case round =>
        obtain ⟨u, tv, hu, rfl, rfl, hT⟩ := hrel
        by_cases hlt2 : u < (H.src t).length
        · obtain ⟨b, off, hab, hcell⟩ := hc (by omega)
          subst hab
          have x2 : wr.cell? ⟨b, off + u, none⟩ = some (.int .i64 ((H.src t).getD u 0 : Nat)) := cell_below (B := 0) hT.bel (hcell u hlt2)
          obtain ⟨p, hpd⟩ : ∃ p, p = (H.src t).getD u 0 := ⟨_, rfl⟩
          rw [← hpd] at x2
          have HPD : Hid _ := hpd
          obtain ⟨q1, q2⟩ := hT.cellB hlt (World.grownBy.refl wr _)
          have hrw : wr.ownsRow (w.heap.size + 1) 49 3 (tv t) u (vpV ((H.src t).take u)) := by
            have h1 := hT.rows t hlt
            have h2 : curf H.src t u t = u := by simp [curf]
            have h3 : ((H.src t).take u).length = u := by simp; omega
            rw [h2, h3] at h1
            exact h1
          have hzs := hT.size
          clear hpd hcell hc
          go_wp2_with (at_builtin; refine wpList_append_lies _ rfl _ _ 47 rfl (w.heap.size + 1) 49 i0 (.agg #[.int .u64 0, .int .i64 0, .int .i64 0]) 3 24 Try.underlying47 hi0 hz0 hz1 hz2 rfl (by decide) (tv t) u (vpV ((H.src t).take u)) rfl (by exact hrw.alloc _) ⟨wr.heap.size, 0, none⟩ 1 1 [.int .u64 0, .int .i64 0, .int .i64 (p : Nat)] rfl rfl (World.news_of_block (Go.Deep.blk_alloc_new _ _)) (agg_oneCell _) (by decide) (by unfold maxLen; omega) (by omega) (by simp; omega) _ rfl ?_; intro g cap2 w1 hown hgrow hat hlt3; obtain ⟨hTT, r1, r2⟩ := hT.app2 hlt hlt2 HPD.out hgrow hown hat; have HTT : Hid _ := hTT; clear hTT hown hgrow hat hlt3)
          go_roundg ((H.src t).length - (u + 1))
          case measure => omega
          case rel =>
            obtain ⟨tv', h1⟩ := HTT.out
            exact ⟨u + 1, tv', by omega, rfl, by go_num, h1⟩
        · have hue : u = (H.src t).length := by omega
          have HUE : Hid _ := hue
          clear hue
          go_wp2
          go_roundg (H.n - (t + 1))
          case measure => omega
          case rel =>
            refine ⟨t + 1, tv, by omega, rfl, by go_num, hT.congr (fun j _ => ?_)⟩
            by_cases e : j = t
            · subst e; simp [curf, HUE.out]
            · by_cases e2 : j < t
              · have : j < t + 1 := by omega
                simp [curf, e2, this]
              · have h1 : ¬ j < t + 1 := by omega
                have h2 : ¬ j = t + 1 ∨ j = t + 1 := by omega
                simp [curf, e, e2, h1]
    · have htn : t = H.n := by omega
      have hcf : ∀ j, j < H.n → curf H.src t 0 j = (H.src j).length := fun j hj => by
        have : j < t := by omega
        simp [curf, this]
      have hVp : ∀ j, j < H.n → VpAt wr (tv j) (H.src j) := fun j hj => by
        have h1 := hT.rows j hj
        rw [hcf j hj, List.take_length] at h1
        exact VpAt.of_owns h1
      have hrowB := hT.row
      have hbT := hT.bel
      clear hcf htn
      go_wp2
      have hS := zEnv_stat hL hbT hrowB hVp
      have hOC := (zEnv_oc H w wr bops bseqs bsess bplace sv tv).drew
      have hbel : Below w.heap.size w wr := hbT
      have hc6 := hOC.c6
      simp only [zEnv] at hc6
      clear hL hT hVp hrowB hbT
      go_region_held (fun w' => w'.cell? ⟨wr.heap.size + 1, 6, none⟩ = some (.slice (some ⟨wr.heap.size, 0, none⟩) H.n H.n)) ((first | exact hc6 | assumption)) ((go_at_call 20; refine order20 hH hS hOC hJ ?_; intro E' st mv w' e1 e2 e3 hO hwf hj hfin; have hcc : w'.cell? ⟨wr.heap.size + 1, 6, none⟩ = some (.slice (some ⟨wr.heap.size, 0, none⟩) H.n H.n) := (by have := hO.cc.2.2.2.2.2; rw [e2, e3] at this; exact this); have HO : Hid _ := hO; clear hO))
      all_goals
        go_wp2
        have hO := HO.out
        have h1 := hO.high
        have h2 := hO.bel
        rw [e2] at h1
        rw [e1] at h2
        exact HR.out st _ _ _ hj hwf hfin (slAt_ord hO.ord) h1 (below_two hbel h2)
end Go.Proofs.Qxb6001561a
