import Derived.Test.Qxb6600184aD1
namespace Go.Proofs.Qxb6600184a
set_option linter.unusedVariables false
set_option linter.unusedSimpArgs false
open Go.RowKit

theorem Try.info57 : (Try.prog.info? 57).map (fun i => (i.zero, i.size, i.bytes)) = some (some (.agg #[.slice none 0 0, .slice none 0 0, .slice none 0 0, .slice none 0 0, .int .u8 0]), 5, 104) := by kernel_rfl

section
variable {w w' : World} {gs C K : Nat} {vi vf : Value} {gi gf : Nat} {ks vv : Nat → Int} {N t : Nat}
theorem SLI.ofHdr (h : SLI w gs C K vi vf gi gf ks vv N N) {k : Nat} (hk : k < K) (hKb : K ≤ 65536) {R : Ending → World → Prop}
    (hR : ∀ ao' C' w', (0 < cn (ky ks k) N → ao' = some ⟨gi, stt ks N k, none⟩) → Fr (fun _ => False) w w' → R (.returned (.slice ao' (cn (ky ks k) N) C')) w') :
    Calls Try.prog 33 #[.agg #[.slice (some ⟨gs, 0, none⟩) (K + 1) C, vi], .int .i64 k] w R := by
  obtain ⟨hC, ⟨f, s1, s2⟩, ⟨fi, i1, i2⟩, _, ne⟩ := h
  have a1 := s1.cell (i := k) (by omega)
  rw [s2 k (by omega)] at a1
  have a2 := s1.cell (i := k + 1) (by omega)
  rw [s2 (k + 1) (by omega)] at a2
  have hst : stt ks N (k + 1) = stt ks N k + cn (ky ks k) N := rfl
  have hmono : stt ks N (k + 1) ≤ stt ks N K := stt_mono (by omega)
  refine of33 k gs (K + 1) C (stt ks N K) gi (stt ks N k) (stt ks N (k + 1)) vi fi w (by omega) (by omega) (by omega) hmono i1 a1 a2 ?_
  intro ao' C' w' h1 h2
  have hd : stt ks N (k + 1) - stt ks N k = cn (ky ks k) N := by omega
  rw [hd] at h1 ⊢
  exact hR ao' C' w' h1 h2
theorem SLI.grp (h : SLI w gs C K vi vf gi gf ks vv N N) {k : Nat} (hk : k < K) {ao' : Option Addr} {C' : Nat} (h1 : 0 < cn (ky ks k) N → ao' = some ⟨gi, stt ks N k, none⟩) : Grp w (.slice ao' (cn (ky ks k) N) C') ks vv N k := by
  obtain ⟨hC, _, ⟨fi, i1, i2⟩, _, ne⟩ := h
  have hst : stt ks N (k + 1) = stt ks N k + cn (ky ks k) N := rfl
  have hmono : stt ks N (k + 1) ≤ stt ks N K := stt_mono (by omega)
  refine ⟨fun j => fi (stt ks N k + j), ⟨ao', C', rfl, fun h0 => ⟨gi, stt ks N k, h1 h0, fun j hj => ?_⟩⟩, fun i hi hki => ?_⟩
  · rcases i1 with ⟨e0, _⟩ | ⟨Ci, ci1, ci2, rfl, ci3⟩
    · omega
    · exact ci3.cell (by omega)
  · have := i2 i hi (by omega)
    have hpe : pos ks N i = stt ks N k + cn (ky ks k) i := by unfold pos; rw [hki]; rfl
    rw [hpe] at this
    exact this
end

/-- the cells of the first k queues -/
def QX (xs : List Value) (k : Nat) (nA sA nW sW : Nat → Nat) (gA gW : Nat) : Prop :=
  xs.length = k * 5 ∧ ∀ i, i < k → ∃ ao1 C1 ao2 C2, xs[i * 5]? = some (.slice ao1 (nA i) C1) ∧ (0 < nA i → ao1 = some ⟨gA, sA i, none⟩) ∧ xs[i * 5 + 2]? = some (.slice ao2 (nW i) C2) ∧ (0 < nW i → ao2 = some ⟨gW, sW i, none⟩) ∧ xs[i * 5 + 4]? = some (.int .u8 0)
theorem QX.nil (nA sA nW sW : Nat → Nat) (gA gW : Nat) : QX [] 0 nA sA nW sW gA gW := ⟨rfl, fun i hi => absurd hi (Nat.not_lt_zero i)⟩
theorem QX.snoc {xs : List Value} {k : Nat} {nA sA nW sW : Nat → Nat} {gA gW : Nat} (h : QX xs k nA sA nW sW gA gW) {ao1 ao2 : Option Addr} {C1 C2 : Nat} {x1 x2 : Value} (h1 : 0 < nA k → ao1 = some ⟨gA, sA k, none⟩) (h2 : 0 < nW k → ao2 = some ⟨gW, sW k, none⟩) :
    QX (xs ++ [.slice ao1 (nA k) C1, x1, .slice ao2 (nW k) C2, x2, .int .u8 0]) (k + 1) nA sA nW sW gA gW := by
  obtain ⟨hl, hx⟩ := h
  refine ⟨by simp [hl]; omega, fun i hi => ?_⟩
  by_cases e : i = k
  · subst e
    refine ⟨ao1, C1, ao2, C2, ?_, h1, ?_, h2, ?_⟩
    · rw [List.getElem?_append_right (by omega), hl, Nat.sub_self]; rfl
    · rw [List.getElem?_append_right (by omega), hl, Nat.add_sub_cancel_left]; rfl
    · rw [List.getElem?_append_right (by omega), hl, Nat.add_sub_cancel_left]; rfl
  · obtain ⟨a, b, c, d, p1, p2, p3, p4, p5⟩ := hx i (by omega)
    refine ⟨a, b, c, d, ?_, p2, ?_, p4, ?_⟩
    · rw [List.getElem?_append_left (by omega)]; exact p1
    · rw [List.getElem?_append_left (by omega)]; exact p3
    · rw [List.getElem?_append_left (by omega)]; exact p5
theorem QX.qs {w : World} {base K : Nat} {v : Value} {xs : List Value} {nA sA nW sW : Nat → Nat} {gA gW : Nat} (h : QX xs K nA sA nW sW gA gW) (ho : w.ownsRow base 57 5 v K xs) {P : Nat → Value → Value → Prop}
    (hP : ∀ k ao1 C1 ao2 C2, k < K → (0 < nA k → ao1 = some ⟨gA, sA k, none⟩) → (0 < nW k → ao2 = some ⟨gW, sW k, none⟩) → P k (.slice ao1 (nA k) C1) (.slice ao2 (nW k) C2)) : QS w v K P := by
  obtain ⟨hl, hx⟩ := h
  have hsh : ∃ ao cap, v = .slice ao K cap ∧ (0 < K → ∃ b, ao = some ⟨b, 0, none⟩ ∧ ∀ j, j < K * 5 → w.cell? ⟨b, j, none⟩ = xs[j]?) := by
    rcases ho.2 with ⟨rfl, rfl⟩ | ⟨g, cap, cur, rfl, hb, hg, hn, _, hcs, ht⟩
    · exact ⟨none, 0, rfl, fun h => absurd h (Nat.lt_irrefl 0)⟩
    · exact ⟨_, _, rfl, fun _ => ⟨g, rfl, fun j hj => ho.cellAt j hj⟩⟩
  obtain ⟨ao, cap, rfl, hc⟩ := hsh
  refine ⟨ao, cap, fun k => xs.getD (k * 5) undef, fun k => xs.getD (k * 5 + 2) undef, rfl, fun h0 => ?_, fun k hk => ?_⟩
  · obtain ⟨b, rfl, hcell⟩ := hc h0
    refine ⟨b, rfl, fun k hk => ?_⟩
    obtain ⟨a, b', c, d, p1, p2, p3, p4, p5⟩ := hx k hk
    refine ⟨?_, ?_, ?_⟩
    · rw [hcell _ (by omega)]; dsimp only; rw [List.getD_eq_getElem?_getD, p1]; rfl
    · rw [hcell _ (by omega)]; dsimp only; rw [List.getD_eq_getElem?_getD, p3]; rfl
    · rw [hcell _ (by omega), p5]
  · obtain ⟨a, b', c, d, p1, p2, p3, p4, p5⟩ := hx k hk
    simp only [List.getD_eq_getElem?_getD, p1, p3, Option.getD_some]
    exact hP k _ _ _ _ hk p2 p4
end Go.Proofs.Qxb6600184a
