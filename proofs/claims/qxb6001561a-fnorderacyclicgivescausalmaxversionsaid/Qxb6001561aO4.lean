import Derived.Test.Qxb6001561aO3
namespace Go.Proofs.Qxb6001561a
set_option linter.unusedVariables false
set_option linter.unusedSimpArgs false
open Go.RowKit Go.Maps

theorem adv_done {H : Hist} {st : St} {s : Nat} (h : ¬ st.next s < (H.seq s).length) (fuel : Nat) (f : Bool) : adv H fuel st s f = (st, []) := by
  cases fuel with
  | zero => rfl
  | succ fuel => simp only [adv, if_neg h]
theorem adv_wait {H : Hist} {st : St} {s p : Nat} (h : st.next s < (H.seq s).length) (hp : pend H st (opAt H st s) = some p) (fuel : Nat) : adv H (fuel + 1) st s false = (waitSt st p s, []) := by
  simp only [adv, if_pos h, hp]
  rfl
theorem adv_step {H : Hist} {st : St} {s : Nat} {f : Bool} (h : st.next s < (H.seq s).length) (hf : f = true ∨ pend H st (opAt H st s) = none) (fuel : Nat) :
    adv H (fuel + 1) st s f = ((adv H fuel (stepSt H st s (opAt H st s)) s false).1, st.wait (opAt H st s) ++ (adv H fuel (stepSt H st s (opAt H st s)) s false).2) := by
  simp only [adv, if_pos h]
  rw [if_neg]
  rintro ⟨h1, h2⟩
  rcases hf with hf | hf
  · rw [h1] at hf; cases hf
  · rw [hf] at h2; cases h2

/-- what the loop of advance carries -/
structure AR (E : Env) (H : Hist) (st0 : St) (mv0 : Nat → Option Value) (w0 : World) (s : Nat) (f0 : Bool) (c : Nat) (st : St) (mv : Nat → Option Value) (wl : List Nat) (f : Bool) (fuel : Nat) (v : Value) (w : World) : Prop where
  eq : adv H (H.n + 1) st0 s f0 = ((adv H fuel st s f).1, wl ++ (adv H fuel st s f).2)
  fuel : (H.seq s).length - st.next s < fuel
  oi : OI E H st mv w
  wf : WF H st (c + wl.length + if f = true then 0 else 1)
  own : w.ownsRow w0.heap.size 3 1 v wl.length (intsV wl)
  keep : Keep (fun b => b ∈ E.own ∨ ∃ p, (wv mv0 p).ownBlock = some b) w0 w
  old : ∀ p g, (wv mv p).ownBlock = some g → (wv mv0 p).ownBlock = some g

def AdvPost (E : Env) (H : Hist) (st0 : St) (mv0 : Nat → Option Value) (w0 : World) (s : Nat) (f0 : Bool) (c : Nat) (mv' : Nat → Option Value) (v : Value) (w' : World) : Prop :=
  OI E H (adv H (H.n + 1) st0 s f0).1 mv' w' ∧ WF H (adv H (H.n + 1) st0 s f0).1 (c + (adv H (H.n + 1) st0 s f0).2.length) ∧
  w'.ownsRow w0.heap.size 3 1 v (adv H (H.n + 1) st0 s f0).2.length (intsV (adv H (H.n + 1) st0 s f0).2) ∧
  Keep (fun b => b ∈ E.own ∨ ∃ p, (wv mv0 p).ownBlock = some b) w0 w' ∧
  ∀ p g, (wv mv' p).ownBlock = some g → (wv mv0 p).ownBlock = some g ∨ (w0.heap.size ≤ g ∧ v.ownBlock ≠ some g)

theorem rem_pos {H : Hist} {st : St} {s : Nat} (hs : s < H.k) (h : st.next s < (H.seq s).length) : 1 ≤ rem H st := by
  have := le_sumL (fun s => (H.seq s).length - st.next s) hs
  unfold rem
  omega

section
variable {E : Env} {H : Hist} {st0 st : St} {mv0 mv : Nat → Option Value} {w0 w w' : World} {s c fuel : Nat} {f0 f : Bool} {wl : List Nat} {v : Value}
theorem AR.grow (h : AR E H st0 mv0 w0 s f0 c st mv wl f fuel v w) (hg : w.grownBy w' none) : AR E H st0 mv0 w0 s f0 c st mv wl f fuel v w' :=
  ⟨h.eq, h.fuel, h.oi.grow hg, h.wf, h.own.kept hg (by cases v.ownBlock <;> simp), h.keep.trans (Keep.of_grown hg (by simp)), h.old⟩
theorem AR.done (h : AR E H st0 mv0 w0 s f0 c st mv wl f fuel v w) (hn : ¬ st.next s < (H.seq s).length) : AdvPost E H st0 mv0 w0 s f0 c mv v w := by
  have e := h.eq
  rw [adv_done hn, List.append_nil] at e
  unfold AdvPost
  rw [e]
  exact ⟨h.oi, h.wf.mono (by show c + wl.length ≤ _; omega), h.own, h.keep, fun p g hg => .inl (h.old p g hg)⟩
theorem AR.start (h0 : OI E H st0 mv0 w0) (hwf : WF H st0 (c + if f0 = true then 0 else 1)) (hseqn : (H.seq s).length ≤ H.n) : AR E H st0 mv0 w0 s f0 c st0 mv0 [] f0 (H.n + 1) (.slice none 0 0) w0 :=
  ⟨by simp, by omega, h0, by simpa using hwf, World.ownsRow_nil _ _ _ _, Keep.refl _ _, fun _ _ h => h⟩
theorem AR.next (hH : HistOK H) (h : AR E H st0 mv0 w0 s f0 c st mv wl f fuel v w) (h0 : OI E H st0 mv0 w0) (hs : s < H.k) (hlt : st.next s < (H.seq s).length) (hfp : f = true ∨ pend H st (opAt H st s) = none) {w3 w4 : World} {v3 : Value}
    (hown3 : w3.ownsRow w0.heap.size 3 1 v3 (wl ++ st.wait (opAt H st s)).length (intsV (wl ++ st.wait (opAt H st s))))
    (h3 : OI E H { takeSt H st (opAt H st s) with next := upd st.next s (st.next s + 1) } mv w3) (hK3 : Keep (fun b => b ∈ E.own ∨ ∃ p, (wv mv0 p).ownBlock = some b) w0 w3)
    (hm4 : MapAt w4 E.bmap (upd mv (opAt H st s) none)) (hg4 : w3.grownBy w4 (some E.bmap)) :
    AR E H st0 mv0 w0 s f0 c (stepSt H st s (opAt H st s)) (upd mv (opAt H st s) none) (wl ++ st.wait (opAt H st s)) false (fuel - 1) v3 w4 := by
  have hfu := h.fuel
  obtain ⟨fuel', rfl⟩ : ∃ fuel', fuel = fuel' + 1 := ⟨fuel - 1, by omega⟩
  refine ⟨?_, ?_, h3.del hm4 hg4, ?_, ?_, hK3.trans (Keep.of_grown hg4 (fun b hb => by cases hb; exact .inl (by simp [Env.own]))), fun p g hg => ?_⟩
  · rw [h.eq, adv_step hlt hfp]
    simp [List.append_assoc]
  · simp only [stepSt, upd_same, Nat.add_sub_cancel]; omega
  · have := h.wf.step hH hs hlt
    exact this.mono (by simp only [List.length_append]; simp; omega)
  · refine hown3.kept hg4 (ownBlock_ne fun g hg e => ?_)
    subst e
    have e1 := (hown3.lt _ hg).1
    have e2 := h0.lt E.bmap (by simp [Env.own])
    omega
  · by_cases e : p = opAt H st s
    · subst e; unfold wv at hg; rw [upd_same] at hg; cases hg
    · refine h.old p g ?_
      unfold wv at hg ⊢
      rw [upd_other _ _ e] at hg
      exact hg
theorem AR.wait (hH : HistOK H) (h : AR E H st0 mv0 w0 s f0 c st mv wl false fuel v w) (h0 : OI E H st0 mv0 w0) (hs : s < H.k) (hlt : st.next s < (H.seq s).length) {p : Nat} (hp : pend H st (opAt H st s) = some p) {w1 w2 : World} {g cap : Nat}
    (hgrow : w.grownBy w1 (wv mv p).ownBlock)
    (hown : w1.ownsRow E.wp.heap.size 3 1 (.slice (some ⟨g, 0, none⟩) ((st.wait p).length + 1) cap) ((st.wait p).length + 1) (intsV (st.wait p) ++ [.int .i64 (s : Nat)]))
    (hat : (wv mv p).ownBlock = some g ∨ w.heap.size ≤ g)
    (hm : MapAt w2 E.bmap (upd mv p (some (.slice (some ⟨g, 0, none⟩) ((st.wait p).length + 1) cap)))) (hg2 : w1.grownBy w2 (some E.bmap)) :
    AdvPost E H st0 mv0 w0 s f0 c (upd mv p (some (.slice (some ⟨g, 0, none⟩) ((st.wait p).length + 1) cap))) v w2 := by
  have hfu := h.fuel
  obtain ⟨fuel', rfl⟩ : ∃ fuel', fuel = fuel' + 1 := ⟨fuel - 1, by omega⟩
  have e := h.eq
  rw [adv_wait hlt hp, List.append_nil] at e
  have hpn := (pend_lt hH (opAt_lt hH hs hlt) hp).1
  have hvg : ∀ b, v.ownBlock = some b → w0.heap.size ≤ b ∧ b < w.heap.size := fun b hb => h.own.lt b hb
  have hold : ∀ b, (wv mv p).ownBlock = some b → b < w0.heap.size := fun b hb => ((h0.rows p).lt b (h.old p b hb)).2
  have hbm : E.bmap < w0.heap.size := h0.lt _ (by simp [Env.own])
  unfold AdvPost
  rw [e]
  refine ⟨h.oi.setWait hgrow hown hat hm hg2, ?_, ?_, ?_, fun q g' hq => ?_⟩
  · have := h.wf
    simp only [Bool.false_eq_true, if_false] at this
    exact this.wait hH hs hpn
  · have k1 := h.own.kept hgrow (by
      cases hv' : v.ownBlock with
      | none => exact .inl rfl
      | some b => exact .inr (fun e2 => by have a1 := (hvg b hv').1; have a2 := hold b e2.symm; omega))
    exact k1.kept hg2 (ownBlock_ne fun b hb e2 => by subst e2; have a1 := (hvg _ hb).1; omega)
  · refine h.keep.trans ((Keep.of_grown hgrow (fun b hb => .inr ⟨p, h.old p b hb⟩)).trans (Keep.of_grown hg2 (fun b hb => by cases hb; exact .inl (by simp [Env.own]))))
  · by_cases e2 : q = p
    · subst e2
      unfold wv at hq
      rw [upd_same] at hq
      have hgg : g' = g := by
        have : some g = some g' := hq
        simpa using this.symm
      subst hgg
      rcases hat with hat | hat
      · exact .inl (h.old q g' hat)
      · refine .inr ⟨Nat.le_trans h.keep.size hat, fun e3 => ?_⟩
        have := (hvg g' e3).2
        omega
    · refine .inl (h.old q g' ?_)
      unfold wv at hq ⊢
      rw [upd_other _ _ e2] at hq
      exact hq
/-- the woken ones' row is none of the ordering's own -/
theorem AR.vfresh (h : AR E H st0 mv0 w0 s f0 c st mv wl f fuel v w) (h0 : OI E H st0 mv0 w0) {g : Nat} (hg : v.ownBlock = some g) : g ∉ E.own := fun hm => by
  have h1 := h0.lt g hm
  have h2 := (h.own.lt g hg).1
  omega
end

theorem AR.waitAll {E : Env} {H : Hist} {st0 st : St} {mv0 mv : Nat → Option Value} {w0 w : World} {s c fuel : Nat} {f0 : Bool} {wl : List Nat} {v : Value} (hH : HistOK H) (h : AR E H st0 mv0 w0 s f0 c st mv wl false fuel v w) (h0 : OI E H st0 mv0 w0) (hs : s < H.k) (hlt : st.next s < (H.seq s).length)
    {i p : Nat} (hi : i = opAt H st s) (hp : pend H st i = some p) {o : Obj} {w2 : World} {g cap : Nat} (hgrow : (w.alloc o).drew.grownBy w2 (wv mv p).ownBlock)
    (hown : w2.ownsRow E.wp.heap.size 3 1 (.slice (some ⟨g, 0, none⟩) ((st.wait p).length + 1) cap) ((st.wait p).length + 1) (intsV (st.wait p) ++ [.int .i64 (s : Int)]))
    (hat : (wv mv p).ownBlock = some g ∨ g = (w.alloc o).drew.heap.size) :
    ∃ w3, (Instr.mapUpdate 56 (.map (some E.bmap)) (.int .i64 (p : Int)) (.slice (some ⟨g, 0, none⟩) ((st.wait p).length + 1) cap)).run Try.prog w2 = .ok () w3 ∧ MapAt w3 E.bmap (upd mv p (some (.slice (some ⟨g, 0, none⟩) ((st.wait p).length + 1) cap))) ∧ w2.grownBy w3 (some E.bmap) ∧
      w2.cell? ⟨E.bo, 3, none⟩ = some (.map (some E.bmap)) ∧ w3.cell? ⟨E.bo, 3, none⟩ = some (.map (some E.bmap)) ∧ Hid (AdvPost E H st0 mv0 w0 s f0 c (upd mv p (some (.slice (some ⟨g, 0, none⟩) ((st.wait p).length + 1) cap))) v w3) := by
  subst hi
  have hgr : w.grownBy w2 (wv mv p).ownBlock := (grownBy_drew (World.grownBy_alloc w o _)).trans hgrow
  have hat' : (wv mv p).ownBlock = some g ∨ w.heap.size ≤ g := by
    rcases hat with e | e
    · exact .inl e
    · exact .inr (by rw [e]; simp)
  have hpn := (pend_lt hH (opAt_lt hH hs hlt) hp).1
  have hn20 := hH.n20
  have hmap : MapAt w2 E.bmap mv := h.oi.map.of_block (hgr.block E.bmap (h.oi.lt _ (by simp [Env.own])) (fun e => h.oi.fresh p _ e.symm (by simp [Env.own])))
  obtain ⟨w3, hrun, hm3, hg3⟩ := hmap.update (p := p) (by omega) (.slice (some ⟨g, 0, none⟩) ((st.wait p).length + 1) cap)
  have r1 : w2.cell? ⟨E.bo, 3, none⟩ = some (.map (some E.bmap)) := (hgr.cell_far ⟨E.bo, 3, none⟩ (h.oi.lt _ (by simp [Env.own])) (fun e => h.oi.fresh p _ e.symm (by simp [Env.own]))).trans h.oi.oo.2.2.2.1
  have r2 : w3.cell? ⟨E.bo, 3, none⟩ = some (.map (some E.bmap)) := (hg3.cell_far ⟨E.bo, 3, none⟩ (Nat.lt_of_lt_of_le (h.oi.lt _ (by simp [Env.own])) hgr.size) (by simpa using h.oi.ne.2.2.2.2.2.2.2.2.2.2.2.2.2.1)).trans r1
  exact ⟨w3, hrun, hm3, hg3, r1, r2, h.wait hH h0 hs hlt hp hgr hown hat' hm3 hg3⟩

set_option maxRecDepth 100000 in
set_option maxHeartbeats 2000000 in
theorem advance21 {E : Env} {H : Hist} {st0 : St} {mv0 : Nat → Option Value} {w0 : World} (hH : HistOK H) (hS : Stat E H) (h0 : OI E H st0 mv0 w0) (s : Nat) (hs : s < H.k) (f0 : Bool) (c : Nat) (hwf : WF H st0 (c + if f0 = true then 0 else 1)) {R : Ending → World → Prop}
    (hR : ∀ mv' v w', AdvPost E H st0 mv0 w0 s f0 c mv' v w' → R (.returned v) w') :
    Calls Try.prog 21 #[.pointer (some ⟨E.bo, 0, none⟩), .int .i64 (s : Nat), .bool f0] w0 R := by
  have HR : Hid _ := hR
  clear hR
  have hn20 := hH.n20
  have hkn := hH.kn
  have hsI : (s : Int) < H.k := by omega
  obtain ⟨ao, cap, hv, hc⟩ := hS.seq s hs
  have hseqn : (H.seq s).length ≤ H.n := Nat.le_trans (le_sumL (fun s => (H.seq s).length) hs) hH.total
  go_enter Try.func21, Try.ntmps21
  go_wp2
  go_loopg [2, 7] ((H.seq s).length - st0.next s + 1) (fun g fv vv wr => ∃ st mv wl f fuel, g = (H.seq s).length - st.next s + 1 ∧ fv = .bool f ∧ AR E H st0 mv0 w0 s f0 c st mv wl f fuel vv wr)
  case atStart =>
    exact ⟨st0, mv0, [], f0, H.n + 1, rfl, rfl, AR.start h0 hwf hseqn⟩
  case round =>
    obtain ⟨st, mv, wl, f, fuel, rfl, rfl, hA⟩ := hrel
    have hoi := hA.oi
    obtain ⟨o0, o1, o2, o3, o4⟩ := hoi.oo
    have c1 := hoi.cc.2.1
    have n1 := hoi.next.cell hs
    have x1 := hoi.stat (hS.seqs s hs)
    rw [hv] at x1
    have hnx := hA.wf.next s hs
    clear o2 o3 o4
    by_cases hlt : st.next s < (H.seq s).length
    · have hltI : (st.next s : Int) < ((H.seq s).length : Int) := by omega
      obtain ⟨b, off, hab, hcell⟩ := hc (by omega)
      subst hab
      have x2 : wr.cell? ⟨b, off + st.next s, none⟩ = some (.int .i64 (opAt H st s : Nat)) := hoi.stat (hcell (st.next s) hlt)
      have hiN := opAt_lt hH hs hlt
      obtain ⟨i, hid⟩ : ∃ i, i = opAt H st s := ⟨_, rfl⟩
      rw [← hid] at x2 hiN
      have hiI : (i : Int) < H.n := by omega
      have HI : Hid _ := hid
      clear hid hc hcell
      go_upto_region 2 with (fail)
      go_quiet (fail)
      go_wp2
      go_quiet (fail)
      go_wp2_with (fail)
      clear o0 o1 c1 n1 x1 x2 hltI
      refine pending22 hH hS (hoi.grow (grownBy_drewN (World.grownBy.refl _ _) _)) i hiN ?_
      intro w1 hg1
      have hA1 := (hA.grow (grownBy_drewN (World.grownBy.refl _ _) _)).grow hg1
      clear hA hoi hg1
      go_upto_region 5 with (fail)
      go_cut [2, 9, 10, 59] (fun t2 t9 t10 t wc => t2 = .bool f ∧ t9 = .int .i64 ((pend H st i).getD 0 : Nat) ∧ t10 = .bool (pend H st i).isSome ∧ t = .bool ((pend H st i).isSome && !f) ∧ wc = w1)
      case first =>
        cases hpe : pend H st i <;> cases f
        all_goals
          go_wp2
          go_meet
          case rel => exact ⟨by simp, by simp [hpe], by simp [hpe], by simp [hpe], rfl⟩
      case rest =>
        obtain ⟨rfl, rfl, rfl, rfl, rfl⟩ := hcut
        go_upto_if 59 with (fail)
        go_cut [2] (fun t2 w2 => t2 = .bool f ∧ (f = true ∨ pend H st i = none) ∧ w2 = wc)
        case first =>
          cases hb : ((pend H st i).isSome && !f)
          · go_wp2
            go_meet
            case rel =>
              refine ⟨rfl, ?_, rfl⟩
              cases f
              · cases hpe : pend H st i
                · exact .inr rfl
                · rw [hpe] at hb; cases hb
              · exact .inl rfl
          · obtain ⟨p, hpe⟩ : ∃ p, pend H st i = some p := by
              cases hpe : pend H st i
              · rw [hpe] at hb; cases hb
              · exact ⟨_, rfl⟩
            have hff : f = false := by
              rw [hpe] at hb
              cases f
              · rfl
              · cases hb
            subst hff
            have hoi := hA1.oi
            have hpn := (pend_lt hH hiN hpe).1
            have hpv : (pend H st i).getD 0 = p := by rw [hpe]; rfl
            rw [hpv]
            have HPE : Hid _ := hpe
            clear hb hpe hpv
            have hlk : (Instr.lookup 56 (.map (some E.bmap)) (.int .i64 (p : Int)) false).run Try.prog wc.drew = .ok (wv mv p) wc.drew := hoi.drew.map.lookup (p := p) (by omega)
            have hlk2 : ∀ o, (Instr.lookup 56 (.map (some E.bmap)) (.int .i64 (p : Int)) false).run Try.prog (wc.alloc o).drew = .ok (wv mv p) (wc.alloc o).drew := fun o => (hoi.grow (World.grownBy_alloc wc o none)).drew.map.lookup (p := p) (by omega)
            have o3 := hoi.oo.2.2.2.1
            obtain ⟨i0, hi0, hz0', hz1, hz2⟩ := info_parts Try.info3
            have hbound : (st.wait p).length ≤ H.k + H.n := by
              have e1 := hA1.wf.room
              have e2 := le_sumL (fun p => (st.wait p).length) hpn
              have e3 : waits H st = sumL (fun p => (st.wait p).length) H.n := rfl
              omega
            have hzw : E.wp.heap.size ≤ wc.heap.size := hoi.bel.size
            go_upto_region 6 with (fail)
            go_region_held_law (fun w' => w'.cell? ⟨E.bo, 3, none⟩ = some (.map (some E.bmap))) (go_keep) ((refine step_append_lies _ rfl _ _ 22 rfl E.wp.heap.size 3 i0 (.int .i64 0) 1 8 Try.underlying22 hi0 hz0' hz1 hz2 rfl (by decide) (wv mv p) (st.wait p).length (intsV (st.wait p)) (by simp [Act.eval, Act.put]) (by exact (hoi.rows p).alloc _) ⟨wc.heap.size, 0, none⟩ 1 1 [.int .i64 (s : Int)] (by simp [Act.eval, Act.put]) rfl (cell_one_new _ _ _) (ints_oneCell .i64 [(s : Int)]) (by decide) (by unfold maxLen; omega) (by omega) (by simp; omega) _ rfl ?_; intro g cap2 w2 hown hgrow hat hlt2; obtain ⟨w3, hrun, hm3, hg3, r1, r2, hpost⟩ := hA1.waitAll hH h0 hs hlt HI.out HPE.out hgrow hown hat; clear hown hgrow hat hlt2))
            all_goals
              go_wp2
              exact HR.out _ _ _ (Hid.out (by assumption))
        case rest =>
          obtain ⟨rfl, hfp, rfl⟩ := hcut
          have hoi := hA1.oi
          have hwf1 := hA1.wf
          have hrp := rem_pos hs hlt
          have hro := hwf1.ord
          have HFP : Hid _ := hfp
          clear hfp
          go_wp2_with (fail)
          refine take23 hH hS hoi hwf1.highOk i hiN (by omega) ?_
          intro w2 h2 hk2
          have o1 := h2.oo.2.1
          have n1 : w2.cell? ⟨E.bnext, s, none⟩ = some (.int .i64 (st.next s : Nat)) := h2.next.cell hs
          have n2 := h2.next.frozen s
          go_upto_region 9 with (fail)
          go_cut [] (fun w3 => OI E H { takeSt H st i with next := upd st.next s (st.next s + 1) } mv w3 ∧ Keep (· ∈ E.own) wc w3)
          case first =>
            go_wp2
            go_meet
            case rel => exact ⟨by have := h2.setNext s (st.next s + 1); rw [show (((st.next s + 1 : Nat)) : Int) = (st.next s : Int) + 1 from by omega] at this; exact this, hk2.trans (Keep.of_grown (grownBy_setCell w2 ⟨E.bnext, s, none⟩ _) (by simp [Env.own]))⟩
          case rest =>
            clear o1 n1 n2 h2 hk2
            obtain ⟨h2, hk2⟩ := hcut
            have hvf : ∀ g, u7.ownBlock = some g → g ∉ E.own := fun g hg => hA1.vfresh h0 hg
            have hown : wc.ownsRow w0.heap.size 3 1 u7 wl.length (intsV wl) := hk2.ownsRow hA1.own hvf
            have hz0 : w0.heap.size ≤ wc.heap.size := Nat.le_trans hA1.keep.size hk2.size
            have hlk := h2.map.lookup (p := i) (by omega)
            have hlk' : (Instr.lookup 56 (.map (some E.bmap)) (.int .i64 (i : Int)) false).run Try.prog wc = .ok (wv mv i) wc := hlk
            clear hlk
            have o3 := h2.oo.2.2.2.1
            obtain ⟨i0, hi0, hz0', hz1, hz2⟩ := info_parts Try.info3
            have hbound : wl.length + (st.wait i).length ≤ H.k + H.n := by
              have e1 := hwf1.room
              have e2 := le_sumL (fun p => (st.wait p).length) hiN
              have e3 : waits H st = sumL (fun p => (st.wait p).length) H.n := rfl
              omega
            have hrow : wc.ownsRow E.wp.heap.size 3 1 (wv mv i) (st.wait i).length (intsV (st.wait i)) := h2.rows i
            have hK0 : Keep (fun b => b ∈ E.own ∨ ∃ p, (wv mv0 p).ownBlock = some b) w0 wc := hA1.keep.trans (hk2.mono (fun x hx => .inl hx))
            have hoth : ∀ b, u7.ownBlock = some b → E.wp.heap.size ≤ b ∧ b ∉ E.own ∧ ∀ p, (wv mv p).ownBlock ≠ some b := fun b hb => by
              have e1 := (hown.lt b hb).1
              refine ⟨Nat.le_trans h0.bel.size e1, hvf b hb, fun p hp => ?_⟩
              have e2 := ((h0.rows p).lt b (hA1.old p b hp)).2
              omega
            have HOTH : Hid _ := hoth
            have HVF : Hid _ := hvf
            clear hoth hvf
            go_upto_region 10 with (fail)
            go_cut [7] (fun v w3 => w3.ownsRow w0.heap.size 3 1 v (wl ++ st.wait i).length (intsV (wl ++ st.wait i)) ∧ OI E H { takeSt H st i with next := upd st.next s (st.next s + 1) } mv w3 ∧ Keep (fun b => b ∈ E.own ∨ ∃ p, (wv mv0 p).ownBlock = some b) w0 w3)
            case first =>
              by_cases hw0 : (st.wait i).length = 0
              · have hnil : st.wait i = [] := List.length_eq_zero_iff.1 hw0
                obtain ⟨a1, c2, hwv⟩ : ∃ a1 c2, wv mv i = .slice a1 0 c2 := by
                  rcases hrow.2 with ⟨hv, _⟩ | ⟨g, cp, cur, hv, _⟩
                  · exact ⟨_, _, hv⟩
                  · rw [hw0] at hv; exact ⟨_, _, hv⟩
                rw [hwv] at hlk'
                go_wp2_with (at_builtin; refine wpList_append_zero _ rfl _ _ 22 rfl w0.heap.size 3 i0 1 Try.underlying22 hi0 u7 wl.length (intsV wl) rfl hown a1 c2 rfl ?_)
                go_meet
                case rel => exact ⟨by rw [hnil, List.append_nil]; exact hown, h2, hK0⟩
              · obtain ⟨g, cp, hwv, _, _⟩ := hrow.form (by omega)
                have hcl := hrow.cells (g := g) (by rw [hwv]; rfl)
                rw [hwv] at hlk'
                go_wp2_with (at_builtin; refine wpList_append_lies _ rfl _ _ 22 rfl w0.heap.size 3 i0 (.int .i64 0) 1 8 Try.underlying22 hi0 hz0' hz1 hz2 rfl (by decide) u7 wl.length (intsV wl) rfl hown ⟨g, 0, none⟩ (st.wait i).length cp (intsV (st.wait i)) rfl (by simp [intsV]) hcl (intsV_oneCell _) (by omega) (by unfold maxLen; omega) (by omega) hz0 _ rfl ?_; intro g' cap' w3 hown3 hgrow3 hat3 hlt3)
                go_meet
                case rel =>
                  refine ⟨by simpa [intsV] using hown3, h2.other hgrow3 HOTH.out, Nat.le_trans hK0.size hgrow3.size, fun b hb hs => ?_⟩
                  exact (hgrow3.block b (by omega) (fun e => by have := (hown.lt b e.symm).1; omega)).trans (hK0.block b hb hs)
            case rest =>
              clear hown h2 hk2 hz0 hlk' o3 hi0 hz0' hz1 hz2 i0 hrow hK0 HOTH HVF
              obtain ⟨hown3, h3, hK3⟩ := hcut
              have o3 := h3.oo.2.2.2.1
              go_wp2_with (at_delete; refine wpList_del _ rfl _ _ rfl E.bmap i mv rfl rfl (by omega) h3.map ?_; intro w4 hm4 hg4)
              go_roundg ((H.seq s).length - (st.next s + 1) + 1)
              case measure => omega
              case rel =>
                have hid := HI.out
                subst hid
                exact ⟨_, _, _, false, fuel - 1, by simp only [stepSt, upd_same], rfl, hA1.next hH h0 hs hlt HFP.out hown3 h3 hK3 hm4 hg4⟩
    · have hltI : ¬ (st.next s : Int) < ((H.seq s).length : Int) := by omega
      go_upto_region 2 with (fail)
      go_quiet (fail)
      go_wp2
      exact HR.out mv _ _ ((hA.grow (grownBy_drewN (World.grownBy.refl _ _) nq)).done hlt)
end Go.Proofs.Qxb6001561a
