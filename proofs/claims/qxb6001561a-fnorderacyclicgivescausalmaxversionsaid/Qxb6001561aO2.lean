import Derived.Test.Qxb6001561aO1
namespace Go.Proofs.Qxb6001561a
set_option linter.unusedVariables false
set_option linter.unusedSimpArgs false
open Go.RowKit Go.Maps

/-- all blocks that were there are as they were, but for those of which S says so -/
structure Keep (S : Nat → Prop) (w w' : World) : Prop where
  size : w.heap.size ≤ w'.heap.size
  block : ∀ b, b < w.heap.size → ¬ S b → w'.heap[b]? = w.heap[b]?
theorem Keep.refl (S : Nat → Prop) (w : World) : Keep S w w := ⟨Nat.le_refl _, fun _ _ _ => rfl⟩
theorem Keep.trans {S : Nat → Prop} {a b c : World} (h : Keep S a b) (k : Keep S b c) : Keep S a c :=
  ⟨Nat.le_trans h.size k.size, fun x hx hs => (k.block x (Nat.lt_of_lt_of_le hx h.size) hs).trans (h.block x hx hs)⟩
theorem Keep.mono {S S' : Nat → Prop} {a b : World} (h : Keep S a b) (hs : ∀ x, S x → S' x) : Keep S' a b := ⟨h.size, fun x hx hn => h.block x hx (fun e => hn (hs x e))⟩
theorem Keep.of_grown {S : Nat → Prop} {w w' : World} {r : Option Nat} (h : w.grownBy w' r) (hr : ∀ b, r = some b → S b) : Keep S w w' :=
  ⟨h.size, fun b hb hs => h.block b hb (fun e => hs (hr b e.symm))⟩

theorem highFrom_snoc (st : St) (h : Int) (l : List Nat) (t : Nat) (ht : t < l.length) :
    highFrom st h (l.take (t + 1)) = if st.taken (l.getD t 0) then max (highFrom st h (l.take t)) (st.high (l.getD t 0)) else highFrom st h (l.take t) := by
  have e : l.getD t 0 = l[t] := by rw [List.getD_eq_getElem?_getD, List.getElem?_eq_getElem ht]; rfl
  rw [List.take_succ_eq_append_getElem ht, e]
  simp only [highFrom, List.foldl_append, List.foldl_cons, List.foldl_nil]

theorem OI.boAfter {E : Env} {H : Hist} {st : St} {mv : Nat → Option Value} {w w1 : World} (h : OI E H st mv w) {b : Nat} (hb : b ≠ E.bo) (hg : w.grownBy w1 (some b)) :
    w1.cell? ⟨E.bo, 4, none⟩ = some (.slice (some ⟨E.bord, 0, none⟩) st.ord.length H.n) ∧ w1.frozen? ⟨E.bo, 4, none⟩ = false := by
  have hl : E.bo < w.heap.size := h.lt _ (by simp [Env.own])
  exact ⟨(hg.cell_far ⟨E.bo, 4, none⟩ hl (by simpa using hb.symm)).trans h.oo.2.2.2.2, (hg.frozen_far ⟨E.bo, 4, none⟩ hl (by simpa using hb.symm)).trans (h.of 4)⟩

set_option maxRecDepth 100000 in
set_option maxHeartbeats 1000000 in
theorem take23 {E : Env} {H : Hist} {st : St} {mv : Nat → Option Value} {w : World} (hH : HistOK H) (hS : Stat E H) (h : OI E H st mv w) (hhi : ∀ i, 0 ≤ st.high i ∧ st.high i ≤ 18446744073709551615) (i : Nat) (hi : i < H.n) (hroom : st.ord.length < H.n) {R : Ending → World → Prop}
    (hR : ∀ w', OI E H (takeSt H st i) mv w' → Keep (· ∈ E.own) w w' → R (.returned (.tuple #[])) w') :
    Calls Try.prog 23 #[.pointer (some ⟨E.bo, 0, none⟩), .int .i64 (i : Nat)] w R := by
  have HR : Hid _ := hR
  clear hR
  have hn20 := hH.n20
  have hiI : (i : Int) < H.n := by omega
  go_enter Try.func23, Try.ntmps23
  obtain ⟨c0, c1, c3, c4, c5, c6⟩ := h.cc
  obtain ⟨o0, o1, o2, o3, o4⟩ := h.oo
  have x4 := h.stat (hS.place i hi)
  have hpl := hH.placeLe i hi
  have hsl := hH.sessLt i hi
  go_upto_if 19 with (fail)
  go_cut [4] (fun v wc => v = .int .u64 (high0 H st i) ∧ w.grownBy wc none)
  case first =>
    by_cases hp : 1 < H.place i
    · have hpI : (1 : Int) < (H.place i : Int) := by omega
      have HV : Hid (high0 H st i = st.high ((H.seq (H.sess i)).getD (H.place i - 2) 0)) := if_pos hp
      have x3 := h.stat (hS.sess i hi)
      obtain ⟨ao, cap, hv, hc⟩ := hS.seq (H.sess i) hsl
      have x1 := h.stat (hS.seqs (H.sess i) hsl)
      rw [hv] at x1
      obtain ⟨b, off, rfl, hcell⟩ := hc (by omega)
      have x2 : w.cell? ⟨b, off + (H.place i - 2), none⟩ = some (.int .i64 ((H.seq (H.sess i)).getD (H.place i - 2) 0 : Nat)) := h.stat (hcell (H.place i - 2) (by omega))
      have hem : (H.seq (H.sess i)).getD (H.place i - 2) 0 < H.n := hH.seqLt _ hsl _ (getD_mem (by omega))
      obtain ⟨e, hed⟩ : ∃ e, e = (H.seq (H.sess i)).getD (H.place i - 2) 0 := ⟨_, rfl⟩
      rw [← hed] at x2 hem HV
      have x6 := h.high.cell hem
      have hslI : (H.sess i : Int) < H.k := by omega
      have hemI : (e : Int) < H.n := by omega
      obtain ⟨q, hq⟩ : ∃ q, q = H.place i - 2 := ⟨_, rfl⟩
      rw [← hq] at x2
      have hqI : (q : Int) < ((H.seq (H.sess i)).length : Int) := by omega
      have hsn : (H.seq (H.sess i)).length ≤ H.n := Nat.le_trans (le_sumL (fun s => (H.seq s).length) hsl) hH.total
      have hwr : IntKind.i64.wrap ((H.place i : Int) - 2) = q := by rw [IntKind.wrap_i64]; omega
      clear hc hcell hv hq hed
      go_upto_region 3 with (fail)
      go_quiet (fail)
      go_wp2
      go_meet
      case rel => exact ⟨by rw [HV.out], grownBy_drewN (World.grownBy.refl _ _) nq⟩
    · have hpI : ¬ (1 : Int) < (H.place i : Int) := by omega
      have HV : Hid (high0 H st i = 0) := if_neg hp
      go_wp2
      go_meet
      case rel => exact ⟨by rw [HV.out], World.grownBy.refl _ _⟩
  case rest =>
    clear c0 c1 c3 c4 c5 c6 o0 o1 o2 o3 o4 x4 hpl hsl
    obtain ⟨rfl, hg0⟩ := hcut
    obtain ⟨ao, cap, hv, hc⟩ := hS.src i hi
    have h' := h.grow hg0
    obtain ⟨c0, c1, c3, c4, c5, c6⟩ := h'.cc
    obtain ⟨o0, o1, o2, o3, o4⟩ := h'.oo
    have hx := h'.stat (hS.srcs i hi)
    rw [hv] at hx
    have hlen := hH.srcLen i hi
    go_wp2
    clear c0 c1 c3 c4 c5 c6 o0 o1 o2 o3 o4 hx h'
    go_loopg [4, 63] (H.src i).length (fun g hv iv wr => ∃ t : Nat, t ≤ (H.src i).length ∧ g = (H.src i).length - t ∧ iv = .int .i64 t ∧ w.grownBy wr none ∧ hv = .int .u64 (highFrom st (high0 H st i) ((H.src i).take t)))
    case atStart => exact ⟨0, Nat.zero_le _, rfl, rfl, hg0, rfl⟩
    case round =>
      obtain ⟨t, ht, rfl, rfl, hg, rfl⟩ := hrel
      have h' := h.grow hg
      by_cases hlt : t < (H.src i).length
      · obtain ⟨b, hab, hcell⟩ := hc (by omega)
        subst hab
        obtain ⟨x0, x1, x2⟩ := hcell t hlt
        have y0 := h'.stat x0
        have y1 := h'.stat x1
        have y2 := h'.stat x2
        obtain ⟨p, hpd⟩ : ∃ p, p = (H.src i).getD t 0 := ⟨_, rfl⟩
        rw [← hpd] at y2
        have hpn : p < H.n := by rw [hpd]; exact hH.srcLt i hi _ (getD_mem hlt)
        have hpI : (p : Int) < H.n := by omega
        have hsn := highFrom_snoc st (high0 H st i) (H.src i) t hlt
        rw [← hpd] at hsn
        have HSN : Hid _ := hsn
        obtain ⟨hcur, hcd⟩ : ∃ x, x = highFrom st (high0 H st i) ((H.src i).take t) := ⟨_, rfl⟩
        have hcb := highFrom_ok hhi ((H.src i).take t) (high0 H st i) (high0_ok hhi i)
        have hpb := hhi p
        rw [← hcd] at HSN hcb ⊢
        clear hcell x0 x1 x2 hc hpd hsn hcd
        have o2 := h'.oo.2.2.1
        have z1 := h'.tak.cell hpn
        have o2' : ∀ o, (wr.alloc o).cell? ⟨E.bo, 2, none⟩ = some (.slice (some ⟨E.btak, 0, none⟩) H.n H.n) := fun o => by rw [World.cell?_alloc_lt _ _ _ (World.block_lt_of_cell? wr _ o2)]; exact o2
        have z1' : ∀ o, (wr.alloc o).cell? ⟨E.btak, p, none⟩ = some (.bool (st.taken p)) := fun o => by rw [World.cell?_alloc_lt _ _ _ (World.block_lt_of_cell? wr _ z1)]; exact z1
        cases htk : st.taken p
        · rw [htk] at z1 z1' HSN
          go_wp2
          go_quiet (fail)
          go_wp2
          go_roundg ((H.src i).length - (t + 1))
          case measure => omega
          case rel => exact ⟨t + 1, by omega, rfl, by go_num, grownBy_drewN (hg.trans (World.grownBy_alloc wr (.cells #[.int .u64 0, .int .i64 0, .int .i64 (p : Nat)] 49) none)) nq, by rw [HSN.out]; rfl⟩
        · rw [htk] at z1 z1' HSN
          have o0 := h'.oo.1
          have c6 := h'.cc.2.2.2.2.2
          have w6 := h'.high.cell hpn
          have o0' : ∀ o, (wr.alloc o).cell? ⟨E.bo, 0, none⟩ = some (.pointer (some ⟨E.bc, 0, none⟩)) := fun o => by rw [World.cell?_alloc_lt _ _ _ (World.block_lt_of_cell? wr _ o0)]; exact o0
          have c6' : ∀ o, (wr.alloc o).cell? ⟨E.bc, 6, none⟩ = some (.slice (some ⟨E.bhigh, 0, none⟩) H.n H.n) := fun o => by rw [World.cell?_alloc_lt _ _ _ (World.block_lt_of_cell? wr _ c6)]; exact c6
          have w6' : ∀ o, (wr.alloc o).cell? ⟨E.bhigh, p, none⟩ = some (.int .u64 (st.high p)) := fun o => by rw [World.cell?_alloc_lt _ _ _ (World.block_lt_of_cell? wr _ w6)]; exact w6
          go_wp2
          go_quiet (fail)
          go_wp2
          go_quiet (fail)
          go_wp2
          all_goals
            go_roundg ((H.src i).length - (t + 1))
            case measure => omega
            case rel => exact ⟨t + 1, by omega, rfl, by go_num, grownBy_drewN (hg.trans (World.grownBy_alloc wr (.cells #[.int .u64 0, .int .i64 0, .int .i64 (p : Nat)] 49) none)) _, by rw [HSN.out]; exact congrArg (Value.int .u64) (by simp only [if_true]; omega)⟩
      · have htl : (H.src i).take t = H.src i := List.take_of_length_le (by omega)
        rw [htl]
        obtain ⟨hf, hfd⟩ : ∃ x, x = highFrom st (high0 H st i) (H.src i) := ⟨_, rfl⟩
        have hfb := highFrom_ok hhi (H.src i) (high0 H st i) (high0_ok hhi i)
        rw [← hfd] at hfb ⊢
        have HFD : Hid _ := hfd
        have hvb := hH.verOk i
        clear htl hfd hc
        obtain ⟨c0, c1, c3, c4, c5, c6⟩ := h'.cc
        obtain ⟨o0, o1, o2, o3, o4⟩ := h'.oo
        have k1 := h'.stat (hS.ops i hi).1
        have k2 := h'.stat (hS.ops i hi).2
        clear c1 c3 c4 c5 c6 o1 o2 o3 o4
        obtain ⟨kd, hkd, hcmp⟩ : ∃ kd, kindV (H.put i) = .string kd ∧ (kd.toList == [112, 117, 116]) = H.put i := by
          cases H.put i
          · exact ⟨_, rfl, by decide +kernel⟩
          · exact ⟨_, rfl, by decide +kernel⟩
        rw [hkd] at k1
        clear hkd
        go_upto_if 100 with (fail)
        go_cut [4] (fun v wc => v = .int .u64 (highOf H st i) ∧ wc = wr)
        case first =>
          cases hput : H.put i
          · have hkv : kindV (H.put i) = .string ⟨#[103, 101, 116]⟩ := by rw [hput]; rfl
            clear hkv hcmp
            have HO : Hid (highOf H st i = hf) := by show highOf H st i = hf; rw [HFD.out]; unfold highOf; rw [hput]; rfl
            go_wp2
            go_meet
            case rel => exact ⟨by rw [HO.out], rfl⟩
          · have hkv : kindV (H.put i) = .string ⟨#[112, 117, 116]⟩ := by rw [hput]; rfl
            clear hkv hcmp
            have HO : Hid (highOf H st i = max hf (H.ver i)) := by show highOf H st i = _; rw [HFD.out]; unfold highOf; rw [hput]; rfl
            go_wp2
            all_goals
              go_meet
              case rel => exact ⟨by rw [HO.out]; exact congrArg (Value.int .u64) (by omega), rfl⟩
        case rest =>
          obtain ⟨rfl, rfl⟩ := hcut
          clear k1 k2 hcmp kd c0 o0 HFD hfb hf hvb
          obtain ⟨c0, c1, c3, c4, c5, c6⟩ := h'.cc
          obtain ⟨o0, o1, o2, o3, o4⟩ := h'.oo
          have k1 := h'.high.cell hi
          have k2 := h'.high.frozen i
          go_upto_region 12 with (fail)
          go_cut [] (fun wc => OI E H { st with high := upd st.high i (highOf H st i) } mv wc ∧ Keep (· ∈ E.own) w wc)
          case first =>
            go_wp2
            go_meet
            case rel => exact ⟨h'.setHigh i _, (Keep.of_grown hg (by simp)).trans (Keep.of_grown (grownBy_setCell _ ⟨E.bhigh, i, none⟩ _) (by simp [Env.own]))⟩
          case rest =>
            clear k1 k2 c0 c1 c3 c4 c5 c6 o0 o1 o2 o3 o4
            obtain ⟨h2, hk2⟩ := hcut
            obtain ⟨o0, o1, o2, o3, o4⟩ := h2.oo
            have k1 := h2.tak.cell hi
            have k2 := h2.tak.frozen i
            go_upto_region 13 with (fail)
            go_cut [] (fun wc => OI E H { st with high := upd st.high i (highOf H st i), taken := upd st.taken i true } mv wc ∧ Keep (· ∈ E.own) w wc)
            case first =>
              go_wp2
              go_meet
              case rel => exact ⟨h2.setTak i true, hk2.trans (Keep.of_grown (grownBy_setCell _ ⟨E.btak, i, none⟩ _) (by simp [Env.own]))⟩
            case rest =>
              clear k1 k2 o0 o1 o2 o3 o4 h2 hk2
              obtain ⟨h2, hk2⟩ := hcut
              obtain ⟨o0, o1, o2, o3, o4⟩ := h2.oo
              obtain ⟨i0, hi0, hz0, hz1, hz2⟩ := info_parts Try.info3
              clear o0 o1 o2 o3
              go_wp2_with (at_builtin; refine wpList_append_fits _ rfl _ _ 22 rfl E.wp.heap.size 3 i0 1 Try.underlying22 hi0 hz1 E.bord st.ord.length H.n (intsV st.ord) rfl (by exact h2.ord.alloc _) ⟨wc.heap.size, 0, none⟩ 1 1 [.int .i64 (i : Nat)] rfl rfl (cell_one_new _ _ _) (ints_oneCell .i64 [(i : Int)]) (by omega) ?_; intro w1 hown hgrow; obtain ⟨q1, q2⟩ := h2.boAfter (fun e => h2.ne.2.2.2.2.2.2.2.2.2.2.2.2.2.2.1 e.symm) ((World.grownBy_alloc wc (.cells #[.int .i64 (i : Nat)] 3) _).trans hgrow); have HF : Hid (OI E H _ mv _ ∧ Keep (· ∈ E.own) w _) := And.intro (h2.setOrd i ((World.grownBy_alloc wc (.cells #[.int .i64 (i : Nat)] 3) _).trans hgrow) hown) (hk2.trans ((Keep.of_grown ((World.grownBy_alloc wc (.cells #[.int .i64 (i : Nat)] 3) _).trans hgrow) (by simp [Env.own])).trans (Keep.of_grown (grownBy_setCell w1 ⟨E.bo, 4, none⟩ (.slice (some ⟨E.bord, 0, none⟩) (st.ord.length + 1) H.n)) (by simp [Env.own])))); clear hown hgrow)
              go_end0
              exact HR.out _ HF.out.1 HF.out.2
end Go.Proofs.Qxb6001561a
