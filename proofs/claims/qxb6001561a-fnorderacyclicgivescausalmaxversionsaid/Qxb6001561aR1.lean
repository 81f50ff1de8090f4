import Derived.Test.Qxb6001561aQ2
namespace Go.Proofs.Qxb6001561a
set_option linter.unusedVariables false
set_option linter.unusedSimpArgs false
open Go.RowKit Go.Maps

/-- What stands when order is called: c and c.highest. -/
structure OC (E : Env) (H : Hist) (w : World) : Prop where
  bel : Below E.wp.heap.size E.wp w
  ne : E.bhigh ≠ E.bc
  geh : E.wp.heap.size ≤ E.bhigh
  gec : E.wp.heap.size ≤ E.bc
  c : w.heap[E.bc]? = some (.cells #[.slice (some ⟨E.bops, 0, none⟩) H.n H.n, .slice (some ⟨E.bseqs, 0, none⟩) H.k H.k, .map none, .slice (some ⟨E.bsess, 0, none⟩) H.n H.n, .slice (some ⟨E.bplace, 0, none⟩) H.n H.n, .slice (some ⟨E.bsrc, 0, none⟩) H.n H.n, .slice (some ⟨E.bhigh, 0, none⟩) H.n H.n] 53 (0, 0))
  high : w.rowIs E.bhigh 40 H.n (fun _ => .int .u64 0)

theorem heap_alloc_get (w : World) (o : Obj) (j : Nat) : (w.alloc o).heap[j]? = if j = w.heap.size then some o else w.heap[j]? := by
  show (w.heap.push o)[j]? = _
  rw [Array.getElem?_push]

theorem OI.begin {E : Env} {H : Hist} {w W : World} (h : OC E H w) (hg : w.grownBy W none) (bo bnext btak bmap bord : Nat) (hH : HistOK H)
    (ho : W.heap[bo]? = some (.cells #[.pointer (some ⟨E.bc, 0, none⟩), .slice (some ⟨bnext, 0, none⟩) H.k H.k, .slice (some ⟨btak, 0, none⟩) H.n H.n, .map (some bmap), .slice (some ⟨bord, 0, none⟩) 0 H.n] 58 (0, 0)))
    (hnext : W.heap[bnext]? = some (.cells (madeCells #[.int .i64 0] H.k) 3)) (htak : W.heap[btak]? = some (.cells (madeCells #[.bool false] H.n) 4)) (hmap : W.heap[bmap]? = some (.map #[] 0)) (hord : W.heap[bord]? = some (.cells (madeCells #[.int .i64 0] H.n) 3))
    (hge : w.heap.size ≤ bo ∧ w.heap.size ≤ bnext ∧ w.heap.size ≤ btak ∧ w.heap.size ≤ bmap ∧ w.heap.size ≤ bord) (hnd : [bo, bnext, btak, bmap, bord].Nodup) :
    OI { E with bo := bo, bnext := bnext, btak := btak, bmap := bmap, bord := bord } H St.start (fun _ => none) W := by
  obtain ⟨g1, g2, g3, g4, g5⟩ := hge
  have hlc : E.bc < w.heap.size := (Array.getElem?_eq_some_iff.1 h.c).1
  have hlh : E.bhigh < w.heap.size := h.high.lt
  have hz := h.bel.size
  have hn20 := hH.n20
  refine ⟨h.bel.grown hg h.bel.size (by simp), ?_, ?_, by rw [hg.block _ hlc (by simp)]; exact h.c, ho, ⟨_, hnext, size_madeCells _ _, fun i hi => ?_⟩, ⟨_, htak, size_madeCells _ _, fun i hi => ?_⟩, h.high.of_block (hg.block _ hlh (by simp)), ?_, ⟨#[], 0, hmap, by simp, by simp, by simp⟩, fun p => World.ownsRow_nil _ _ _ _, fun p q _ => .inl rfl, fun p g hp => by cases hp⟩
  · simp only [List.nodup_cons, List.mem_cons, List.not_mem_nil, or_false, not_or, List.nodup_nil] at hnd
    simp only [Env.own, List.nodup_cons, List.mem_cons, List.not_mem_nil, or_false, not_or, List.nodup_nil]
    have := h.ne
    refine ⟨⟨this, by omega, by omega, by omega, by omega, by omega⟩, ⟨by omega, by omega, by omega, by omega, by omega⟩, hnd⟩
  · intro b hb
    simp only [Env.own, List.mem_cons, List.not_mem_nil, or_false] at hb
    have := h.geh
    have := h.gec
    rcases hb with rfl | rfl | rfl | rfl | rfl | rfl | rfl <;> simp only at * <;> omega
  · simp [madeCells, hi, Nat.mod_one, St.start]
  · simp [madeCells, hi, Nat.mod_one, St.start]
  · refine ⟨by simp [St.start, intsV], .inr ⟨bord, H.n, _, rfl, by simp only; omega, hord, Nat.zero_le _, by unfold maxLen; omega, by simp [size_madeCells], by simp [St.start, intsV]⟩⟩

theorem heap_drew_get (w : World) (j : Nat) : w.drew.heap[j]? = w.heap[j]? := rfl
theorem blk_new_drew (W : World) (o : Obj) {k : Nat} (hk : k = W.heap.size) : (W.alloc o).drew.heap[k]? = some o := by subst hk; exact Go.Deep.blk_alloc_new _ _
theorem cell_alloc_old {w : World} {o : Obj} {a : Addr} {v : Value} (h : w.cell? a = some v) : (w.alloc o).cell? a = some v := (World.cell?_alloc_lt _ _ _ (World.block_lt_of_cell? w a h)).trans h
theorem cell_drew_old {w : World} {a : Addr} {v : Value} (h : w.cell? a = some v) : w.drew.cell? a = some v := h

theorem make_cap (n : Nat) (hn : n ≤ 1048576) (w : World) : (Instr.makeSlice 22 (.int .i64 0) (.int .i64 (n : Int))).run Try.prog w =
    .ok (.slice (some ⟨w.heap.size, 0, none⟩) 0 n) (w.alloc (.cells (madeCells #[.int .i64 0] n) 3)) := by
  obtain ⟨i, hi, hz0, hz1, hz2⟩ := info_parts Try.info3
  have hr := run_make (P := Try.prog) w 22 3 i _ Try.underlying22 hi hz0 .i64 .i64 0 n (by omega) (by omega) (by rw [hz2]; omega) (by omega)
  simpa [hz1, Value.cells] using hr

set_option maxRecDepth 100000 in
set_option maxHeartbeats 4000000 in
theorem order20 {E : Env} {H : Hist} {w : World} (hH : HistOK H) (hS : Stat E H) (h : OC E H w) {J : St → List Nat → Prop} (hJ : Inv H J) {R : Ending → World → Prop}
    (hR : ∀ E' st mv w', E'.wp = E.wp → E'.bhigh = E.bhigh → E'.bc = E.bc → OI E' H st mv w' → WF H st 0 → J st [] → (∀ s, s < H.k → ¬ st.next s < (H.seq s).length) →
      R (.returned (.slice (some ⟨E'.bord, 0, none⟩) st.ord.length H.n)) w') :
    Calls Try.prog 20 #[.pointer (some ⟨E.bc, 0, none⟩)] w R := by
  have HR : Hid _ := hR
  clear hR
  have hn20 := hH.n20
  have hkn := hH.kn
  have c0 : w.cell? ⟨E.bc, 0, none⟩ = some (.slice (some ⟨E.bops, 0, none⟩) H.n H.n) := by rw [cell_of_row w _ _ _ _ _ h.c]; rfl
  have c1 : w.cell? ⟨E.bc, 1, none⟩ = some (.slice (some ⟨E.bseqs, 0, none⟩) H.k H.k) := by rw [cell_of_row w _ _ _ _ _ h.c]; rfl
  have mk1 := run_make_row' (P := Try.prog) 22 3 (.int .i64 0) 8 Try.underlying22 Try.info3 rfl .i64 .i64 H.k (by omega) (by omega)
  have mk2 := run_make_row' (P := Try.prog) 23 4 (.bool false) 1 Try.underlying23 Try.info4 rfl .i64 .i64 H.n (by omega) (by omega)
  have mk3 := make_cap H.n hn20
  have mk4 := @run_makeMap Try.prog
  go_enter Try.func20, Try.ntmps20
  go_upto_region 1 with (fail)
  go_cut [3] (fun v wc => ∃ bo bnext btak bmap bord, v = .pointer (some ⟨bo, 0, none⟩) ∧ OI { E with bo := bo, bnext := bnext, btak := btak, bmap := bmap, bord := bord } H St.start (fun _ => none) wc)
  case first =>

    go_region_held (fun w' => w'.cell? ⟨E.bc, 0, none⟩ = some (.slice (some ⟨E.bops, 0, none⟩) H.n H.n) ∧ w'.cell? ⟨E.bc, 1, none⟩ = some (.slice (some ⟨E.bseqs, 0, none⟩) H.k H.k)) ((exact And.intro (by repeat (first | exact c0 | apply cell_alloc_old | apply cell_drew_old)) (by repeat (first | exact c1 | apply cell_alloc_old | apply cell_drew_old)))) (fail)
    all_goals
      go_wp2
      go_meet
      case rel => exact ⟨_, _, _, _, _, rfl, OI.begin h (by repeat (first | exact World.grownBy.refl _ _ | apply grownBy_drew | refine World.grownBy.trans ?_ (World.grownBy_alloc _ _ _))) _ _ _ _ _ hH (blk_new_drew _ _ (by simp)) (by simp only [heap_drew_get, heap_alloc_get, Go.Deep.nblk_alloc]; repeat (first | rw [if_pos trivial] | rw [if_neg (by omega)] | rw [if_pos (by omega)])) (by simp only [heap_drew_get, heap_alloc_get, Go.Deep.nblk_alloc]; repeat (first | rw [if_pos trivial] | rw [if_neg (by omega)] | rw [if_pos (by omega)])) (by simp only [heap_drew_get, heap_alloc_get, Go.Deep.nblk_alloc]; repeat (first | rw [if_pos trivial] | rw [if_neg (by omega)] | rw [if_pos (by omega)])) (by simp only [heap_drew_get, heap_alloc_get, Go.Deep.nblk_alloc]; repeat (first | rw [if_pos trivial] | rw [if_neg (by omega)] | rw [if_pos (by omega)])) (by omega) (by simp only [List.nodup_cons, List.mem_cons, List.not_mem_nil, or_false, not_or, List.nodup_nil, not_false_eq_true, and_true]; omega)⟩

  case rest =>
    obtain ⟨bo, bnext, btak, bmap, bord, rfl, hO⟩ := hcut
    obtain ⟨E', hwp, hbh, hbc, hbo, hS', hO'⟩ : ∃ E' : Env, E'.wp = E.wp ∧ E'.bhigh = E.bhigh ∧ E'.bc = E.bc ∧ E'.bo = bo ∧ Stat E' H ∧ OI E' H St.start (fun _ => none) wc :=
      ⟨{ E with bo := bo, bnext := bnext, btak := btak, bmap := bmap, bord := bord }, rfl, rfl, rfl, rfl, ⟨hS.ops, hS.seqs, hS.seq, hS.sess, hS.place, hS.srcs, hS.src⟩, hO⟩
    subst hbo
    rw [← hbc]
    have HR2 : Hid (∀ st mv w', OI E' H st mv w' → WF H st 0 → J st [] → (∀ s, s < H.k → ¬ st.next s < (H.seq s).length) → R (.returned (.slice (some ⟨E'.bord, 0, none⟩) st.ord.length H.n)) w') := fun st mv w' => HR.out E' st mv w' hwp hbh hbc
    clear HR hO mk2 mk3 mk4 c0 c1 hS h hwp hbh hbc
    have c1 := hO'.cc.2.1
    go_wp2
    clear mk1 c1
    go_loopg [40] H.k (fun g iv wr => ∃ t : Nat, t ≤ H.k ∧ g = H.k - t ∧ iv = .int .i64 t ∧ OI E' H St.start (fun _ => none) wr ∧ wr.rowIs wc.heap.size 3 H.k (fun j => if j < t then .int .i64 (j : Nat) else .int .i64 0))
    case atStart =>
      exact ⟨0, Nat.zero_le _, rfl, rfl, hO'.grow (World.grownBy_alloc _ _ _), (World.rowIs_made _ _ _ _).congr (fun j _ => by simp)⟩
    case round =>
      obtain ⟨t, ht, rfl, rfl, hO1, hrow⟩ := hrel
      by_cases hlt : t < H.k
      · have q1 := hrow.cell hlt
        have q2 := hrow.frozen t
        go_wp2
        go_roundg (H.k - (t + 1))
        case measure => omega
        case rel =>
          refine ⟨t + 1, by omega, rfl, by go_num, hO1.other (grownBy_setCell wr ⟨wc.heap.size, t, none⟩ _) (fun b hb => ?_), (hrow.set t _).congr (fun j _ => ?_)⟩
          · cases hb
            refine ⟨hO'.bel.size, fun hm => ?_, fun p hp => by cases hp⟩
            have := hO'.lt _ hm
            simp only at this
            omega
          · by_cases e : j = t
            · subst e; simp
            · simp only [if_neg e]
              by_cases h2 : j < t
              · rw [if_pos h2, if_pos (by omega)]
              · rw [if_neg h2, if_neg (by omega)]
      · have htk : t = H.k := by omega
        have hq0 : QR E' H J St.start (fun _ => none) (List.range H.k) (.slice (some ⟨wc.heap.size, 0, none⟩) H.k H.k) wr := by
          refine ⟨hO1, by simpa using WF.start hH, .inr ⟨wc.heap.size, 0, H.k, by simp, hrow.lt, by simp, fun j hj => ?_, fun u hu => ?_⟩, fun x hx => List.mem_range.1 hx, fun b hb => ?_, hJ.start⟩
          · rw [Nat.zero_add, hrow.cell hj]; exact ⟨rfl, hrow.frozen j⟩
          · have hu' : u < H.k := by simpa using hu
            rw [Nat.zero_add, hrow.cell hu', if_pos (by omega), List.getD_eq_getElem?_getD, List.getElem?_range hu']; rfl
          · cases hb
            refine ⟨hO'.bel.size, fun hm => ?_, fun p hp => by cases hp⟩
            have := hO'.lt _ hm
            simp only at this
            omega
        clear hO1 hrow htk hO'
        go_wp2
        go_loopg [4] (rem H St.start) (fun G qv wr => ∃ st mv q, G = rem H st ∧ QR E' H J st mv q qv wr)
        case atStart => exact ⟨_, _, _, rfl, hq0⟩
        case round =>
          obtain ⟨st0, mv0, q0, rfl, hq⟩ := hrel
          clear hq0
          go_wp2
          go_loopg [4] (rem H st0 * 4194304 + q0.length) (fun g qv wr => ∃ st mv q, g = rem H st * 4194304 + q.length ∧ rem H st ≤ rem H st0 ∧ QR E' H J st mv q qv wr)
          case atStart => exact ⟨st0, mv0, q0, rfl, Nat.le_refl _, hq⟩
          case round =>
            obtain ⟨st, mv, q, rfl, hrm, hQ⟩ := hrel
            clear hq
            cases q with
            | nil =>
              obtain ⟨ao, cq, hqv⟩ : ∃ ao cq, u4 = .slice ao 0 cq := by
                rcases hQ.qat with ⟨hv, _⟩ | ⟨b, off, cap, hv, _⟩
                · exact ⟨_, _, hv⟩
                · exact ⟨_, _, hv⟩
              subst hqv
              have c1 := hQ.oi.cc.2.1
              go_wp2
              go_loopg [7, 66] H.k (fun g sv iv wr2 => ∃ t : Nat, t ≤ H.k ∧ g = H.k - t ∧ iv = .int .i64 t ∧ sv = .int .i64 (-1) ∧ wr2 = wr ∧ ∀ u, u < t → ¬ st.next u < (H.seq u).length)
              case atStart => exact ⟨0, Nat.zero_le _, rfl, rfl, rfl, rfl, fun u hu => absurd hu (Nat.not_lt_zero u)⟩
              case round =>
                obtain ⟨t, ht, rfl, rfl, rfl, rfl, hno⟩ := hrel
                have HNO : Hid _ := hno
                clear hno
                by_cases hlt2 : t < H.k
                · obtain ⟨a2, c2, hv2, _⟩ := hS'.seq t hlt2
                  have x1 := hQ.oi.stat (hS'.seqs t hlt2)
                  rw [hv2] at x1
                  have n1 := hQ.oi.next.cell hlt2
                  have o1 := hQ.oi.oo.2.1
                  have hnx := hQ.wf.next t hlt2
                  clear hv2
                  by_cases hn : st.next t < (H.seq t).length
                  · have hnI : (st.next t : Int) < ((H.seq t).length : Int) := by omega
                    have hfo := adv_forced hlt2 hn H.n
                    have HFO : Hid _ := hfo
                    clear hfo
                    go_wp2_with (fail)
                    refine advance21 hH hS' hQ.oi t hlt2 true 0 (by simpa using hQ.wf) ?_
                    intro mv' v w' hp
                    go_wp2
                    go_roundg (rem H (adv H (H.n + 1) st t true).1)
                    case measure => have := HFO.out; omega
                    case rel => exact ⟨_, mv', _, rfl, hQ.forced hJ hlt2 hn hp⟩
                  · have hnI : ¬ (st.next t : Int) < ((H.seq t).length : Int) := by omega
                    go_wp2
                    go_roundg (H.k - (t + 1))
                    case measure => omega
                    case rel =>
                      refine ⟨t + 1, by omega, rfl, by go_num, rfl, rfl, fun u hu => ?_⟩
                      by_cases e : u = t
                      · subst e; exact hn
                      · exact HNO.out u (by omega)
                · have o4 := hQ.oi.oo.2.2.2.2
                  go_wp2
                  exact HR2.out st mv _ hQ.oi hQ.wf hQ.j (fun u hu => HNO.out u (by omega))
            | cons s q =>
              have hs : s < H.k := hQ.qlt s (by simp)
              obtain ⟨b, off, cap, hu⟩ : ∃ b off cap, u4 = .slice (some ⟨b, off, none⟩) (q.length + 1) cap := by
                rcases hQ.qat with ⟨_, hv⟩ | ⟨b, off, cap, hv, _⟩
                · cases hv
                · exact ⟨b, off, cap, hv⟩
              subst hu
              obtain ⟨ht1, ht2, ht3⟩ := QAt.tail hQ.qat
              have hwf := hQ.wf
              by_cases hcap : cap = 1
              · subst hcap
                have hq0 : q = [] := List.length_eq_zero_iff.1 (by omega)
                subst hq0
                have h1 : QAt wr (.slice (some ⟨b, off, none⟩) 0 0) [] := ht1 (some ⟨b, off, none⟩) (fun _ => rfl) (fun e => absurd rfl e)
                clear ht1 ht3
                go_wp2_with (fail)
                refine advance21 hH hS' hQ.oi s hs false 0 (by simpa using hQ.wf) ?_
                intro mv' v w' hp
                have hpr := hp.2.1.room
                have hrem := adv_rem hs (H.n + 1) st false
                have HREM : Hid _ := hrem
                clear hrem
                go_wp2_with (at_builtin; refine wpList_append_q _ rfl _ _ rfl _ _ [] (adv H (H.n + 1) st s false).2 wr.heap.size rfl rfl (hQ.mid h1 rfl hp) hp.2.2.1 (by simp only [List.length_nil]; omega) ?_; intro v2 w2 h2 hg2 hl2)
                go_roundg (rem H (adv H (H.n + 1) st s false).1 * 4194304 + ([] ++ (adv H (H.n + 1) st s false).2).length)
                case measure =>
                  rw [List.nil_append, List.length_cons]
                  rcases HREM.out with ⟨e1, e2⟩ | e2
                  · rw [e1, e2]; simp
                  · omega
                case rel =>
                  refine ⟨_, mv', _, rfl, ?_, hQ.next hJ h1 rfl hp h2 hg2 hl2⟩
                  rcases HREM.out with ⟨e1, e2⟩ | e2
                  · omega
                  · omega
              · have h1 := ht1 (some ⟨b, off + 1, none⟩) (fun e => absurd e hcap) (fun _ => rfl)
                clear ht1
                go_wp2_with (fail)
                refine advance21 hH hS' hQ.oi s hs false q.length (by simpa using hQ.wf) ?_
                intro mv' v w' hp
                have hpr := hp.2.1.room
                have hrem := adv_rem hs (H.n + 1) st false
                have HREM : Hid _ := hrem
                clear hrem
                go_wp2_with (at_builtin; refine wpList_append_q _ rfl _ _ rfl _ _ q (adv H (H.n + 1) st s false).2 wr.heap.size rfl rfl (hQ.mid h1 rfl hp) hp.2.2.1 (by omega) ?_; intro v2 w2 h2 hg2 hl2)
                go_roundg (rem H (adv H (H.n + 1) st s false).1 * 4194304 + (q ++ (adv H (H.n + 1) st s false).2).length)
                case measure =>
                  rw [List.length_append, List.length_cons]
                  rcases HREM.out with ⟨e1, e2⟩ | e2
                  · rw [e1, e2]; simp
                  · omega
                case rel =>
                  refine ⟨_, mv', _, rfl, ?_, hQ.next hJ h1 rfl hp h2 hg2 hl2⟩
                  rcases HREM.out with ⟨e1, e2⟩ | e2
                  · omega
                  · omega
end Go.Proofs.Qxb6001561a
