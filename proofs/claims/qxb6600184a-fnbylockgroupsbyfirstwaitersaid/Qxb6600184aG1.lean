import Derived.Test.Qxb6600184aG0
namespace Go.Proofs.Qxb6600184a
set_option linter.unusedVariables false
set_option linter.unusedSimpArgs false
open Go.RowKit

open Classical in
theorem choose_fn {K : Nat} {P : Nat → (Nat → Int) → Prop} (h : ∀ k, k < K → ∃ f, P k f) : ∃ F : Nat → Nat → Int, ∀ k, k < K → P k (F k) := by
  refine ⟨fun k => if hk : k < K then Classical.choose (h k hk) else fun _ => 0, fun k hk => ?_⟩
  dsimp only
  rw [dif_pos hk]
  exact Classical.choose_spec (h k hk)

theorem bytes_ne {a b : ByteArray} (h : ¬ a = b) : (a.toList == b.toList) = false := by
  rw [ByteArray.toList_eq, ByteArray.toList_eq]
  cases hb : a.data.toList == b.data.toList with
  | false => rfl
  | true =>
    have h1 := Array.toList_inj.1 (eq_of_beq hb)
    cases a; cases b
    exact absurd (congrArg ByteArray.mk h1) h

/-- the places of the first of each name -/
def FI (wl : Nat → ByteArray) (i : Nat) (F : Nat → Nat) : Prop := ∀ k, k < (dist wl i).length → (dist wl i)[k]? = some (wl (F k)) ∧ F k < i
theorem FI.mem {wl : Nat → ByteArray} {i : Nat} {F : Nat → Nat} (h : FI wl i F) (hm : wl i ∈ dist wl i) : FI wl (i + 1) F := by
  intro k hk
  rw [dist_mem hm] at hk ⊢
  exact ⟨(h k hk).1, by have := (h k hk).2; omega⟩
theorem FI.new {wl : Nat → ByteArray} {i : Nat} {F : Nat → Nat} (h : FI wl i F) (hm : wl i ∉ dist wl i) : FI wl (i + 1) (fun j => if j = (dist wl i).length then i else F j) := by
  intro k hk
  rw [dist_not hm] at hk ⊢
  dsimp only
  by_cases e : k = (dist wl i).length
  · subst e
    rw [if_pos rfl, List.getElem?_append_right (Nat.le_refl _), Nat.sub_self]
    exact ⟨rfl, by omega⟩
  · have hk' : k < (dist wl i).length := by simp at hk; omega
    rw [if_neg e, List.getElem?_append_left hk']
    exact ⟨(h k hk').1, by have := (h k hk').2; omega⟩

theorem Fr.belowN {w w' : World} {bl bm : Nat} {w5 : World} (h5 : Below w.heap.size w w5) (hf : Fr (fun x => x = bl ∨ x = bm) w5 w') (h1 : w.heap.size ≤ bl) (h2 : w.heap.size ≤ bm) : Below w.heap.size w w' :=
  Fr.below h5 hf h5.size (fun x hx => by rcases hx with e | e <;> omega)
theorem below2 {a b c : World} (h : Below a.heap.size a b) (k : Below b.heap.size b c) : Below a.heap.size a c :=
  h.trans ⟨k.os, k.tape, k.output, k.size, fun x hx => k.block x (Nat.lt_of_lt_of_le hx h.size)⟩

set_option maxRecDepth 100000 in
set_option maxHeartbeats 8000000 in
theorem law3 (v0 v1 v2 v3 : Value) (n0 n1 n2 m : Nat) (wv av : Nat → Int) (wl : Nat → ByteArray) (L : Nat → Nat) (g : Nat → Nat → ByteArray) (w : World) (h0 : n0 ≤ maxLen) (h1 : n1 ≤ maxLen) (h2 : n2 ≤ maxLen) (h3 : m ≤ maxLen)
    (hW : ∀ i, i < n2 → (wl i).size ≤ maxLen) (hL : ∀ r, r < m → L r ≤ maxLen) (hG : ∀ r, r < m → ∀ j, j < L r → (g r j).size ≤ maxLen)
    (s0 : SlAt w v0 n0 (fun j => .int .i64 (wv j))) (s1 : SlAt w v1 n1 (fun j => .int .i64 (av j))) (s2 : SlAt w v2 n2 (fun j => .string (wl j))) (s3 : RowsS w v3 m L g) {R : Ending → World → Prop}
    (hR : ∀ w', Below w.heap.size w w' → R (.returned (.bool true)) w') : Calls Try.prog 3 #[v0, v1, v2, v3] w R := by
  have HR : Hid _ := hR
  clear hR
  have t0 := s0
  obtain ⟨a0, c0, rfl, _⟩ := t0
  have t1 := s1
  obtain ⟨a1, c1, rfl, _⟩ := t1
  have t2 := s2
  obtain ⟨a2, c2, rfl, _⟩ := t2
  have t3 := s3
  obtain ⟨_, _, ⟨a3, c3, rfl, _⟩, _⟩ := t3
  have HS : Hid _ := And.intro s0 (And.intro s1 (And.intro s2 s3))
  have HM : Hid _ := And.intro hW (And.intro hL hG)
  clear s0 s1 s2 s3 hW hL hG
  have HH : Hid _ := And.intro h0 (And.intro h1 (And.intro h2 h3))
  unfold maxLen at h0 h1 h2 h3
  go_enter Try.func3, Try.ntmps3
  go_wp2_with (fail)
  refine bytes8 a0 a1 n0 n1 c0 c1 _ _ n2 m wl L g HH.out.1 HH.out.2.1 HH.out.2.2.1 HH.out.2.2.2 HM.out.1 HM.out.2.1 HM.out.2.2 w HS.out.2.2.1 HS.out.2.2.2 ?_
  intro b
  cases b
  · go_wp2_with (fail)
    exact HR.out _ (Below.refl _ _)
  go_wp2_with (fail)
  refine size9 a0 a1 n0 n1 c0 c1 _ _ n2 m wl L g HH.out.1 HH.out.2.1 HH.out.2.2.1 HH.out.2.2.2 HM.out.1 HM.out.2.1 HM.out.2.2 w HS.out.2.2.1 HS.out.2.2.2 ?_
  intro t ht hfit
  by_cases hbig : (1048576 : Int) < t
  · go_wp2_with (fail)
    exact HR.out _ (Below.refl _ _)
  have hF := hfit (by omega)
  clear hfit
  by_cases e1 : (n2 : Int) = n0
  case neg =>
    go_wp2_with (fail)
    exact HR.out _ (Below.refl _ _)
  by_cases e2 : (m : Int) = n1
  case neg =>
    go_wp2_with (fail)
    exact HR.out _ (Below.refl _ _)
  have e1' : n2 = n0 := by omega
  have e2' : m = n1 := by omega
  subst e1' e2'
  obtain ⟨f0, f1, f2, fm, fs⟩ := hF
  clear h0 h1 h2 h3 e1 e2
  go_wp2_with (fail)
  refine copy10 _ n2 wv _ (by omega) HS.out.1 ?_
  intro u0 w1 q0 _ b1
  go_wp2_with (fail)
  refine copy10 _ m av _ (by omega) (HS.out.2.1.below b1) ?_
  intro u1 w2 q1 _ b2
  go_wp2_with (fail)
  refine copy11 _ n2 wl _ (by omega) ((HS.out.2.2.1.below b1).below b2) ?_
  intro a2' c2' w3 q2 _ b3
  go_wp2_with (fail)
  refine copy12 _ m L g _ (by omega) (fun r hr => ?_) (((HS.out.2.2.2.below b1).below b2).below b3) ?_
  · have : sumL L (r + 1) ≤ sumL L m := sumL_mono (by omega)
    simp only [sumL] at this
    omega
  intro u3 w4 q3 b4
  obtain ⟨A, C, ⟨a3', c3', rfl, q3a⟩, q3b⟩ := q3
  have HQ : Hid (SlAt w4 u0 n2 (fun j => .int .i64 (wv j)) ∧ SlAt w4 u1 m (fun j => .int .i64 (av j)) ∧ SlAt w4 (.slice a2' n2 c2') n2 (fun j => .string (wl j)) ∧ SlAt w4 (.slice a3' m c3') m (fun r => .slice (A r) (L r) (C r)) ∧ ∀ r, r < m → SlAt w4 (.slice (A r) (L r) (C r)) (L r) (fun j => .string (g r j))) :=
    ⟨((q0.below b2).below b3).below b4, (q1.below b3).below b4, q2.below b4, ⟨a3', c3', rfl, q3a⟩, q3b⟩
  have HB4 : Hid (Below w.heap.size w w4) := below2 (below2 (below2 b1 b2) b3) b4
  obtain ⟨x0, y0, rfl, _⟩ := q0
  obtain ⟨x1, y1, rfl, _⟩ := q1
  clear q2 q3a q3b b1 b2 b3 b4
  go_wp2_with (fail)
  refine new13 _ ?_
  have hLS := new_LS w4
  have HB5 : Hid (Below w4.heap.size w4 ((w4.alloc (.map #[] 0)).alloc (lobj 0 w4.heap.size (.slice none 0 0) (.slice none 0 0) (.slice none 0 0) (.slice none 0 0) (.slice none 0 0) (.slice none 0 0) (.slice none 0 0) (.slice none 0 0) (.slice none 0 0)))) := ((Below.refl _ w4).alloc (Nat.le_refl _) _).alloc (by simp) _
  generalize ((w4.alloc (.map #[] 0)).alloc (lobj 0 w4.heap.size (.slice none 0 0) (.slice none 0 0) (.slice none 0 0) (.slice none 0 0) (.slice none 0 0) (.slice none 0 0) (.slice none 0 0) (.slice none 0 0) (.slice none 0 0))) = w5 at hLS HB5 ⊢
  have HLS : Hid _ := hLS
  clear hLS
  obtain ⟨NV, hNV⟩ := flat (⟨#[]⟩, 0) L (fun i j => (g i j, av i)) m
  have HNV : Hid (∀ r j, r < m → j < L r → (fun t => (NV t).1) (sumL L r + j) = g r j ∧ (fun t => (NV t).2) (sumL L r + j) = av r) := fun r j hr hj => by
    have := hNV r j hr hj
    dsimp only
    rw [this]
    exact ⟨rfl, rfl⟩
  clear hNV
  obtain ⟨nm, hnm⟩ : ∃ f, f = fun t => (NV t).1 := ⟨_, rfl⟩
  obtain ⟨vv, hvv⟩ : ∃ f, f = fun t => (NV t).2 := ⟨_, rfl⟩
  rw [← hnm, ← hvv] at HNV
  clear hnm hvv
  go_wp2_with (fail)
  refine byLock15 w5 (w4.heap.size + 1) w4.heap.size n2 m wl wv av L g A C _ _ _ _ nm vv HNV.out f2 fm fs HM.out.1 HM.out.2.2 HLS.out ?_ ?_
  · intro w' hf
    have hb := Fr.belowN HB5.out hf (by omega) (Nat.le_refl _)
    obtain ⟨p1, p2, p3, p4, p5⟩ := HQ.out
    exact ⟨p2.below hb, p1.below hb, p3.below hb, p4.below hb, fun r hr => (p5 r hr).below hb⟩
  intro vq w6 hq hf6
  have hb6 := Fr.belowN HB5.out hf6 (by omega) (Nat.le_refl _)
  obtain ⟨aq, cq, QA, QW, rfl, hqc, hqg⟩ := hq
  obtain ⟨fA, hfA⟩ := choose_fn (P := fun k f => SlAt w6 (QA k) (cn (ky (fun t => key (dist wl n2) (nm t)) k) (sumL L m)) (fun j => .int .i64 (f j)) ∧ ∀ i, i < sumL L m → (fun t => key (dist wl n2) (nm t)) i = (k : Int) → f (cn (ky (fun t => key (dist wl n2) (nm t)) k) i) = vv i) (fun k hk => (hqg k hk).1)
  obtain ⟨fW, hfW⟩ := choose_fn (P := fun k f => SlAt w6 (QW k) (cn (ky (fun i => key (dist wl n2) (wl i)) k) n2) (fun j => .int .i64 (f j)) ∧ ∀ i, i < n2 → (fun i => key (dist wl n2) (wl i)) i = (k : Int) → f (cn (ky (fun i => key (dist wl n2) (wl i)) k) i) = wv i) (fun k hk => (hqg k hk).2)
  have hdn := dist_len wl n2
  go_wp2_with (fail)
  refine flat14 aq _ cq QA QW _ _ fA fW w6 (by omega) hqc (fun k hk => ⟨(hfA k hk).1, by have := cn_le (ky (fun t => key (dist wl n2) (nm t)) k) (sumL L m); omega⟩) (fun k hk => ⟨(hfW k hk).1, by have := cn_le (ky (fun i => key (dist wl n2) (wl i)) k) n2; omega⟩) ?_
  intro XA XW b1 b2 b3 w7 r1 r2 r3 r4 hb7
  have HG : Hid (∀ k, k < (dist wl n2).length → (∀ i, i < sumL L m → key (dist wl n2) (nm i) = (k : Int) → fA k (cn (ky (fun t => key (dist wl n2) (nm t)) k) i) = vv i) ∧ ∀ i, i < n2 → key (dist wl n2) (wl i) = (k : Int) → fW k (cn (ky (fun i => key (dist wl n2) (wl i)) k) i) = wv i) := fun k hk => ⟨(hfA k hk).2, (hfW k hk).2⟩
  have HB7 : Hid (Below w.heap.size w w7) := below2 HB4.out (below2 hb6 hb7)
  have H7 : Hid (∀ w', Below w7.heap.size w7 w' → (SlAt w' (.slice x0 n2 y0) n2 (fun j => .int .i64 (wv j)) ∧ SlAt w' (.slice x1 m y1) m (fun j => .int .i64 (av j)) ∧ SlAt w' (.slice a2' n2 c2') n2 (fun j => .string (wl j)) ∧ SlAt w' (.slice a3' m c3') m (fun r => .slice (A r) (L r) (C r)) ∧ ∀ r, r < m → SlAt w' (.slice (A r) (L r) (C r)) (L r) (fun j => .string (g r j))) ∧
      SlAt w' (.slice (some ⟨b1, 0, none⟩) (dist wl n2).length (dist wl n2).length) (dist wl n2).length XA ∧ SlAt w' (.slice (some ⟨b2, 0, none⟩) (dist wl n2).length (dist wl n2).length) (dist wl n2).length XW ∧ SlAt w' (.slice (some ⟨b3, 0, none⟩) (dist wl n2).length (dist wl n2).length) (dist wl n2).length (fun _ => .int .i64 0) ∧
      ∀ k, k < (dist wl n2).length → SlAt w' (XA k) (cn (ky (fun t => key (dist wl n2) (nm t)) k) (sumL L m)) (fun i => .int .i64 (fA k i)) ∧ SlAt w' (XW k) (cn (ky (fun i => key (dist wl n2) (wl i)) k) n2) (fun i => .int .i64 (fW k i))) := by
    intro w' hb
    have hb' := below2 (below2 hb6 hb7) hb
    obtain ⟨p1, p2, p3, p4, p5⟩ := HQ.out
    exact ⟨⟨p1.below hb', p2.below hb', p3.below hb', p4.below hb', fun r hr => (p5 r hr).below hb'⟩, r1.below hb, r2.below hb, r3.below hb, fun k hk => ⟨(r4 k hk).1.below hb, (r4 k hk).2.below hb⟩⟩
  clear hqc hqg hfA hfW hf6 hb6 hb7 r1 r2 r3 r4
  have hmk := make_cap n2 (by omega)
  go_wp2_with (fail)
  clear hmk
  go_loopg [13, 14] n2 (fun gh vf i wr => ∃ k : Nat, k ≤ n2 ∧ gh = n2 - k ∧ i = .int .i64 k ∧ ∃ F : Nat → Nat, wr.ownsRow w7.heap.size 3 1 vf (dist wl k).length (ints (fun j => ((F j : Nat) : Int)) (dist wl k).length) ∧ Hid (FI wl k F) ∧ Below w7.heap.size w7 wr)
  case atStart =>
    refine ⟨0, Nat.zero_le _, rfl, rfl, fun _ => 0, ⟨rfl, .inr ⟨w7.heap.size, n2, _, rfl, Nat.le_refl _, Go.Deep.blk_alloc_new _ _, Nat.zero_le _, by unfold maxLen; omega, by simp [size_madeCells], rfl⟩⟩, fun k hk => absurd hk (Nat.not_lt_zero k), (Below.refl _ w7).alloc (Nat.le_refl _) _⟩
  case round =>
    obtain ⟨k, hk, rfl, rfl, F, hown, hFI, hbel⟩ := hrel
    have hdl := dist_len wl k
    by_cases hlt : k < n2
    · obtain ⟨wo, hwo⟩ : ∃ x, x = wr := ⟨wr, rfl⟩
      subst hwo
      obtain ⟨lb, lo, hlb, hcell⟩ := (H7.out wo hbel).1.2.2.1.cellAt (by omega)
      subst hlb
      have hcx := hcell k hlt
      have HC : Hid _ := hcell
      clear hcell
      go_wp2_with (fail)
      go_loopg [15, 16] k (fun gh sn j wr => ∃ q : Nat, q ≤ k ∧ gh = k - q ∧ j = .int .i64 q ∧ sn = .bool false ∧ Hid (∀ x, x < q → wl x ≠ wl k) ∧ ∃ z, wr = wo.drewN z)
      case atStart => exact ⟨0, Nat.zero_le _, rfl, rfl, rfl, fun x hx => absurd hx (Nat.not_lt_zero x), 0, rfl⟩
      case round =>
        obtain ⟨q, hq, rfl, rfl, rfl, hno, z, rfl⟩ := hrel
        by_cases hlt2 : q < k
        · have hcy := HC.out q (by omega)
          by_cases heq : wl q = wl k
          · have hmem : wl k ∈ dist wl k := by rw [mem_dist]; exact ⟨q, hlt2, heq⟩
            rw [heq] at hcy
            go_upto_region 21 with (fail)
            go_quiet (fail)
            go_wp2_with (fail)
            go_roundg (n2 - (k + 1))
            case measure => omega
            case rel => exact ⟨k + 1, by omega, rfl, by go_num, F, by rw [dist_mem hmem]; exact hown, hFI.out.mem hmem, ⟨hbel.os, hbel.tape, hbel.output, hbel.size, hbel.block⟩⟩
          · have hb1 : ((wl q).toList == (wl k).toList) = false := bytes_ne heq
            go_upto_region 21 with (fail)
            go_quiet (fail)
            go_wp2_with (fail)
            go_roundg (k - (q + 1))
            case measure => omega
            case rel =>
              refine ⟨q + 1, by omega, rfl, by go_num, rfl, fun x hx => ?_, z + nq, by simp [World.drewN, Nat.add_assoc]⟩
              by_cases e : x = q
              · subst e; exact heq
              · exact hno.out x (by omega)
        · have hqk : q = k := by omega
          have HQK : Hid _ := hqk
          clear hqk
          have hmem : wl k ∉ dist wl k := by
            rw [mem_dist]
            rintro ⟨x, hx, e⟩
            exact hno.out x (by rw [HQK.out]; exact hx) e
          obtain ⟨i0, hi0, hz0, hz1, hz2⟩ := info_parts Try.info3
          have hs7 : w7.heap.size ≤ wo.heap.size := hbel.size
          have hown' : (wo.drewN z).ownsRow w7.heap.size 3 1 u13 (dist wl k).length (ints (fun j => ((F j : Nat) : Int)) (dist wl k).length) := hown
          go_wp2_with (at_builtin; refine wpList_append_lies _ rfl _ _ 22 rfl w7.heap.size 3 i0 (.int .i64 0) 1 8 Try.underlying22 hi0 hz0 hz1 hz2 rfl (by decide) u13 (dist wl k).length (ints (fun j => ((F j : Nat) : Int)) (dist wl k).length) rfl (by exact hown'.alloc _) ⟨wo.heap.size, 0, none⟩ 1 1 [.int .i64 (k : Nat)] rfl rfl (cell_one_new _ _ _) (ints_oneCell .i64 [((k : Nat) : Int)]) (by decide) (by unfold maxLen; omega) (by omega) (by simp; omega) _ rfl ?_; intro g6 cap6 w6 hown6 hgrow6 hat6 hlt6)
          go_roundg (n2 - (k + 1))
          case measure => omega
          case rel =>
            refine ⟨k + 1, by omega, rfl, by go_num, fun j => if j = (dist wl k).length then k else F j, ?_, hFI.out.new hmem, ?_⟩
            · have hl : (dist wl (k + 1)).length = (dist wl k).length + 1 := by rw [dist_not hmem, List.length_append]; rfl
              rw [hl, ← ints_succ]
              have e1 : ints (fun j => (((if j = (dist wl k).length then k else F j) : Nat) : Int)) (dist wl k).length = ints (fun j => ((F j : Nat) : Int)) (dist wl k).length := by
                unfold ints
                refine List.map_congr_left (fun j hj => ?_)
                dsimp only
                rw [if_neg (by have := List.mem_range.1 hj; omega)]
              rw [e1]
              dsimp only
              rw [if_pos rfl]
              exact hown6
            · have hb' : Below w7.heap.size w7 ((wo.drewN z).alloc (.cells #[.int .i64 ((k : Nat) : Int)] 3)) := Below.alloc (w := wo.drewN z) ⟨hbel.os, hbel.tape, hbel.output, hbel.size, hbel.block⟩ hbel.size _
              exact hb'.grown hgrow6 (by simp; omega) (fun x hx => (ownsRow_own hown x hx).1)
    · have hkn : n2 = k := by omega
      subst hkn
      clear hlt hk hdl
      obtain ⟨wo, hwo⟩ : ∃ x, x = wr := ⟨wr, rfl⟩
      subst hwo
      have h7 := H7.out wo hbel
      have HK7 : Hid _ := h7
      have hsl := ownsRow_cell hown
      have HOW : Hid _ := hown
      clear h7 hown
      obtain ⟨af, cf, he, hcF⟩ := hsl
      subst he
      have HCF : Hid _ := hcF
      clear hcF
      go_upto_region 28 with (fail)
      go_loopg [17] (dist wl n2).length (fun gh i wr => ∃ k : Nat, k ≤ (dist wl n2).length ∧ gh = (dist wl n2).length - k ∧ i = .int .i64 k ∧ ∃ z, wr = wo.drewN z)
      case atStart => exact ⟨0, Nat.zero_le _, rfl, rfl, 0, rfl⟩
      case round =>
        obtain ⟨k, hk, rfl, rfl, z, rfl⟩ := hrel
        by_cases hlt : k < (dist wl n2).length
        · obtain ⟨fb, fo, hfb, hcell⟩ := HCF.out (by omega)
          subst hfb
          have hFk := (hFI.out k hlt)
          have cF := hcell k hlt
          have hFlt := hFk.2
          obtain ⟨lb, lo, hlb, hcl⟩ := HK7.out.1.2.2.1.cellAt (by omega)
          subst hlb
          have cL := hcl (F k) hFlt
          obtain ⟨rb, ro, hrb, hcr⟩ := HK7.out.2.2.2.1.cellAt (by omega)
          cases hrb
          have cR := hcr k hlt
          obtain ⟨wb, wo2, hwb, hcw⟩ := HK7.out.2.2.1.cellAt (by omega)
          cases hwb
          have cW := hcw k hlt
          obtain ⟨ab, ao2, hab, hca⟩ := HK7.out.2.1.cellAt (by omega)
          cases hab
          have cA := hca k hlt
          obtain ⟨⟨xa, ya, hXA, hcXA⟩, ⟨xw, yw, hXW, hcXW⟩⟩ := HK7.out.2.2.2.2 k hlt
          rw [hXA, Nat.zero_add] at cA
          rw [hXW, Nat.zero_add] at cW
          rw [Nat.zero_add] at cR
          have HE : Hid (∀ x, key (dist wl n2) x = (k : Int) ↔ x = wl (F k)) := fun x => key_eq (dist_nodup wl n2) hFk.1
          have HXA : Hid _ := hcXA
          have HXW : Hid _ := hcXW
          have HLL : Hid _ := hcl
          obtain ⟨nA, hnA⟩ : ∃ x, x = cn (ky (fun t => key (dist wl n2) (nm t)) k) (sumL L m) := ⟨_, rfl⟩
          obtain ⟨nW, hnW⟩ : ∃ x, x = cn (ky (fun i => key (dist wl n2) (wl i)) k) n2 := ⟨_, rfl⟩
          rw [← hnA] at cA
          rw [← hnW] at cW
          have bA : nA ≤ 4096 := by rw [hnA]; have := cn_le (ky (fun t => key (dist wl n2) (nm t)) k) (sumL L m); omega
          have bW : nW ≤ 4096 := by rw [hnW]; have := cn_le (ky (fun i => key (dist wl n2) (wl i)) k) n2; omega
          have HNA : Hid _ := hnA
          have HNW : Hid _ := hnW
          clear hcell hFk hcl hcr hcw hca hXA hXW hcXA hcXW hnA hnW
          go_upto_region 31 with (fail)
          go_quiet ((go_at_call 16; exact counts16 _ ⟨rfl, _, rfl⟩))
          go_wp2_with (fail)
          clear cF cL cR cW
          go_loopg [20, 21] n2 (fun gh nn i wr => ∃ i' : Nat, i' ≤ n2 ∧ gh = n2 - i' ∧ i = .int .i64 i' ∧ nn = .int .i64 (cn (ky (fun i => key (dist wl n2) (wl i)) k) i' : Nat) ∧ ∃ z, wr = wo.drewN z)
          case atStart => exact ⟨0, Nat.zero_le _, rfl, rfl, rfl, _, rfl⟩
          case round =>
            obtain ⟨i, hi, rfl, rfl, rfl, z2, rfl⟩ := hrel
            by_cases hlt3 : i < n2
            · have cL := HLL.out i hlt3
              obtain ⟨vb, vo, hvb, hcv⟩ := HK7.out.1.1.cellAt (by omega)
              subst hvb
              have cV := hcv i hlt3
              clear hcv
              by_cases heq : wl i = wl (F k)
              · have hks : (fun i => key (dist wl n2) (wl i)) i = (k : Int) := (HE.out _).2 heq
                have hcn : cn (ky (fun i => key (dist wl n2) (wl i)) k) i < nW := by rw [HNW.out]; exact cn_lt hlt3 (by simp only [ky]; exact decide_eq_true hks)
                have hhit : cn (ky (fun i => key (dist wl n2) (wl i)) k) (i + 1) = cn (ky (fun i => key (dist wl n2) (wl i)) k) i + 1 := cn_hit hks
                obtain ⟨xb, xo, hxb, hcx⟩ := HXW.out (by rw [← HNW.out]; omega)
                have hxb' := hxb
                have cX := hcx (cn (ky (fun i => key (dist wl n2) (wl i)) k) i) (by rw [← HNW.out]; exact hcn)
                rw [(HG.out k hlt).2 i hlt3 hks] at cX
                rw [heq] at cL
                subst hxb
                generalize cn (ky (fun i => key (dist wl n2) (wl i)) k) i = ci at cX hcn hhit
                have hgd : decide ((nW : Int) ≤ (ci : Int)) = false := by simp; omega
                clear hcx hxb'
                go_upto_region 39 with (fail)
                go_quiet (fail)
                go_wp2_with (fail)
                go_roundg (n2 - (i + 1))
                case measure => omega
                case rel => exact ⟨i + 1, by omega, rfl, by go_num, by rw [hhit]; go_num, z2 + nq, by simp [World.drewN, Nat.add_assoc]⟩
              · have hks : ¬ (fun i => key (dist wl n2) (wl i)) i = (k : Int) := fun e => heq ((HE.out _).1 e)
                have hskip : cn (ky (fun i => key (dist wl n2) (wl i)) k) (i + 1) = cn (ky (fun i => key (dist wl n2) (wl i)) k) i := cn_skip hks
                have hb1 : ((wl i).toList == (wl (F k)).toList) = false := bytes_ne heq
                go_wp2_with (fail)
                go_roundg (n2 - (i + 1))
                case measure => omega
                case rel => exact ⟨i + 1, by omega, rfl, by go_num, by rw [hskip], z2, rfl⟩
            · have hin : i = n2 := by omega
              have hcE : cn (ky (fun i => key (dist wl n2) (wl i)) k) i = nW := by rw [hin]; exact HNW.out.symm
              rw [hcE]
              clear hin hcE
              go_wp2_with (fail)
              clear cA
              go_loopg [20, 23] m (fun gh nn i wr => ∃ r : Nat, r ≤ m ∧ gh = m - r ∧ i = .int .i64 r ∧ nn = .int .i64 (cn (ky (fun t => key (dist wl n2) (nm t)) k) (sumL L r) : Nat) ∧ ∃ z, wr = wo.drewN z)
              case atStart => exact ⟨0, Nat.zero_le _, rfl, rfl, rfl, _, rfl⟩
              case round =>
                obtain ⟨r, hr, rfl, rfl, rfl, z3, rfl⟩ := hrel
                by_cases hlt4 : r < m
                · obtain ⟨tb, tO, htb, hct⟩ := HK7.out.1.2.2.2.1.cellAt (by omega)
                  subst htb
                  have cT := hct r hlt4
                  obtain ⟨ar, har⟩ : ∃ x, x = A r := ⟨_, rfl⟩
                  rw [← har] at cT
                  have HAR : Hid _ := har
                  have hsr : sumL L (r + 1) ≤ sumL L m := sumL_mono (by omega)
                  simp only [sumL] at hsr
                  clear hct har
                  go_wp2_with (fail)
                  clear cT
                  go_loopg [20, 25] (L r) (fun gh nn i wr => ∃ j : Nat, j ≤ L r ∧ gh = L r - j ∧ i = .int .i64 j ∧ nn = .int .i64 (cn (ky (fun t => key (dist wl n2) (nm t)) k) (sumL L r + j) : Nat) ∧ ∃ z, wr = wo.drewN z)
                  case atStart => exact ⟨0, Nat.zero_le _, rfl, rfl, rfl, _, rfl⟩
                  case round =>
                    obtain ⟨j, hj, rfl, rfl, rfl, z4, rfl⟩ := hrel
                    by_cases hlt5 : j < L r
                    · obtain ⟨nb, no, hnb, hcn⟩ := (HK7.out.1.2.2.2.2 r hlt4).cellAt (by omega)
                      rw [← HAR.out] at hnb
                      subst hnb
                      have cN := hcn j hlt5
                      obtain ⟨pb, po, hpb, hcp⟩ := HK7.out.1.2.1.cellAt (by omega)
                      subst hpb
                      have cP := hcp r hlt4
                      have hnmj := HNV.out r j hlt4 hlt5
                      clear hcn hcp
                      by_cases heq : g r j = wl (F k)
                      · have hks : (fun t => key (dist wl n2) (nm t)) (sumL L r + j) = (k : Int) := (HE.out _).2 (by rw [hnmj.1]; exact heq)
                        have hcnl : cn (ky (fun t => key (dist wl n2) (nm t)) k) (sumL L r + j) < nA := by rw [HNA.out]; exact cn_lt (by omega) (by simp only [ky]; exact decide_eq_true hks)
                        have hhit : cn (ky (fun t => key (dist wl n2) (nm t)) k) (sumL L r + (j + 1)) = cn (ky (fun t => key (dist wl n2) (nm t)) k) (sumL L r + j) + 1 := cn_hit hks
                        obtain ⟨xb, xo, hxb, hcx⟩ := HXA.out (by rw [← HNA.out]; omega)
                        have cX := hcx (cn (ky (fun t => key (dist wl n2) (nm t)) k) (sumL L r + j)) (by rw [← HNA.out]; exact hcnl)
                        rw [(HG.out k hlt).1 (sumL L r + j) (by omega) hks, hnmj.2] at cX
                        rw [heq] at cN
                        subst hxb
                        generalize cn (ky (fun t => key (dist wl n2) (nm t)) k) (sumL L r + j) = ci at cX hcnl hhit
                        have hgd : decide ((nA : Int) ≤ (ci : Int)) = false := by simp; omega
                        clear hcx hnmj
                        go_upto_region 54 with (fail)
                        go_quiet (fail)
                        go_wp2_with (fail)
                        go_roundg (L r - (j + 1))
                        case measure => omega
                        case rel => exact ⟨j + 1, by omega, rfl, by go_num, by rw [hhit]; go_num, z4 + nq, by simp [World.drewN, Nat.add_assoc]⟩
                      · have hks : ¬ (fun t => key (dist wl n2) (nm t)) (sumL L r + j) = (k : Int) := fun e => heq (by rw [← hnmj.1]; exact (HE.out _).1 e)
                        have hskip : cn (ky (fun t => key (dist wl n2) (nm t)) k) (sumL L r + (j + 1)) = cn (ky (fun t => key (dist wl n2) (nm t)) k) (sumL L r + j) := cn_skip hks
                        have hb1 : ((g r j).toList == (wl (F k)).toList) = false := bytes_ne heq
                        clear hnmj
                        go_wp2_with (fail)
                        go_roundg (L r - (j + 1))
                        case measure => omega
                        case rel => exact ⟨j + 1, by omega, rfl, by go_num, by rw [hskip], z4, rfl⟩
                    · have hje : j = L r := by omega
                      have HJ : Hid _ := hje
                      clear hje
                      go_wp2_with (fail)
                      go_roundg (m - (r + 1))
                      case measure => omega
                      case rel => exact ⟨r + 1, by omega, rfl, by go_num, by rw [HJ.out]; rfl, z4, rfl⟩
                · have hrm : r = m := by omega
                  have hcE2 : cn (ky (fun t => key (dist wl n2) (nm t)) k) (sumL L r) = nA := by rw [hrm]; exact HNA.out.symm
                  rw [hcE2]
                  clear hrm hcE2
                  go_wp2_with (fail)
                  go_roundg ((dist wl n2).length - (k + 1))
                  case measure => omega
                  case rel => exact ⟨k + 1, by omega, rfl, by go_num, z3, rfl⟩
        · have hkn : k = (dist wl n2).length := by omega
          have HKN : Hid _ := hkn
          clear hkn
          go_wp2_with (fail)
          exact HR.out _ (below2 HB7.out ⟨hbel.os, hbel.tape, hbel.output, hbel.size, hbel.block⟩)
end Go.Proofs.Qxb6600184a
