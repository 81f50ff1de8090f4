import Derived.Test.Qxb6600184aB1
import Derived.Test.Qxb6600184aC0
namespace Go.Proofs.Qxb6600184a
set_option linter.unusedVariables false
set_option linter.unusedSimpArgs false
open Go.RowKit

/-- row gs holds, one place on, how many of the first t items each key below K has -/
def CNT (w : World) (gs C K : Nat) (ks : Nat → Int) (t : Nat) : Prop :=
  K + 1 ≤ C ∧ ∃ f : Nat → Int, w.rowIs gs 3 C (fun j => .int .i64 (f j)) ∧ f 0 = 0 ∧ ∀ k, k < K → f (k + 1) = (cn (ky ks k) t : Nat)
theorem CNT.start {w : World} {gs C K : Nat} {ks : Nat → Int} (hC : K + 1 ≤ C) (h : w.rowIs gs 3 C (fun _ => .int .i64 0)) : CNT w gs C K ks 0 := ⟨hC, fun _ => 0, h, rfl, fun k _ => rfl⟩
theorem CNT.fr {S : Nat → Prop} {w w' : World} {gs C K : Nat} {ks : Nat → Int} {t : Nat} (h : CNT w gs C K ks t) (hf : Fr S w w') (hn : ¬ S gs) : CNT w' gs C K ks t := by
  obtain ⟨hC, f, h1, h2⟩ := h
  exact ⟨hC, f, hf.rowIs h1 hn, h2⟩
theorem cn_skip {ks : Nat → Int} {k t : Nat} (h : ks t ≠ k) : cn (ky ks k) (t + 1) = cn (ky ks k) t := by simp [cn, ky, h]
theorem cn_hit {ks : Nat → Int} {k t : Nat} (h : ks t = k) : cn (ky ks k) (t + 1) = cn (ky ks k) t + 1 := by simp [cn, ky, h]
theorem CNT.skip {w : World} {gs C K : Nat} {ks : Nat → Int} {t : Nat} (h : CNT w gs C K ks t) (hk : ks t < 0) : CNT w gs C K ks (t + 1) := by
  obtain ⟨hC, f, h1, h2, h3⟩ := h
  exact ⟨hC, f, h1, h2, fun k hkK => by rw [h3 k hkK, cn_skip (by omega)]⟩
theorem CNT.count {w : World} {gs C K : Nat} {ks : Nat → Int} {t kk : Nat} (h : CNT w gs C K ks t) (hk : ks t = (kk : Nat)) (hK : kk < K) (hKb : K ≤ 65536) (ht : t ≤ 65536) {bl off : Nat} (hc : w.cell? ⟨bl, off, none⟩ = some (.slice (some ⟨gs, 0, none⟩) (K + 1) C)) {R : Ending → World → Prop}
    (hR : ∀ w', CNT w' gs C K ks (t + 1) → Fr (· = gs) w w' → R (.returned (.tuple #[])) w') : Calls Try.prog 30 #[.pointer (some ⟨bl, off, none⟩), .int .i64 kk] w R := by
  obtain ⟨hC, f, h1, h2, h3⟩ := h
  have hx := h1.cell (i := kk + 1) (by omega)
  have hb := cn_le (ky ks kk) t
  rw [h3 kk hK] at hx
  refine count30 bl off kk gs (K + 1) C _ (by omega) (by omega) (by omega) (by omega) w hc hx (h1.frozen _) ?_
  refine hR _ ⟨hC, fun j => if j = kk + 1 then (cn (ky ks kk) t : Nat) + 1 else f j, (h1.set (kk + 1) _).congr (fun j _ => by dsimp only; split <;> rfl), by dsimp only; rw [if_neg (by omega)]; exact h2, fun k hkK => ?_⟩ (Fr.setCell w ⟨gs, kk + 1, none⟩ _)
  dsimp only
  by_cases e : k = kk
  · subst e; rw [if_pos rfl, cn_hit hk]; rfl
  · rw [if_neg (by omega), h3 k hkK, cn_skip (by omega)]

/-- the lists laid out, the first t items put -/
structure SLI (w : World) (gs C K : Nat) (vi vf : Value) (gi gf : Nat) (ks vv : Nat → Int) (N t : Nat) : Prop where
  hC : K + 1 ≤ C
  st : ∃ f : Nat → Int, w.rowIs gs 3 C (fun j => .int .i64 (f j)) ∧ ∀ k, k ≤ K → f k = (stt ks N k : Nat)
  it : ∃ fi : Nat → Int, RowV w vi (stt ks N K) gi fi ∧ ∀ i, i < t → 0 ≤ ks i → fi (pos ks N i) = vv i
  fl : ∃ ff : Nat → Int, RowV w vf K gf ff ∧ ∀ k, k < K → ff k = (cn (ky ks k) t : Nat)
  ne : gi ≠ gf ∧ gs ≠ gi ∧ gs ≠ gf
section
variable {w w' : World} {gs C K : Nat} {vi vf : Value} {gi gf : Nat} {ks vv : Nat → Int} {N t : Nat}
theorem SLI.fr {S : Nat → Prop} (h : SLI w gs C K vi vf gi gf ks vv N t) (hf : Fr S w w') (h1 : ¬ S gs) (h2 : ¬ S gi) (h3 : ¬ S gf) : SLI w' gs C K vi vf gi gf ks vv N t := by
  obtain ⟨hC, ⟨f, s1, s2⟩, ⟨fi, i1, i2⟩, ⟨ff, f1, f2⟩, ne⟩ := h
  exact ⟨hC, ⟨f, hf.rowIs s1 h1, s2⟩, ⟨fi, i1.fr hf h2, i2⟩, ⟨ff, f1.fr hf h3, f2⟩, ne⟩
theorem SLI.skip (h : SLI w gs C K vi vf gi gf ks vv N t) (hk : ks t < 0) : SLI w gs C K vi vf gi gf ks vv N (t + 1) := by
  obtain ⟨hC, st, ⟨fi, i1, i2⟩, ⟨ff, f1, f2⟩, ne⟩ := h
  refine ⟨hC, st, ⟨fi, i1, fun i hi h0 => i2 i ?_ h0⟩, ⟨ff, f1, fun k hkK => by rw [f2 k hkK, cn_skip (by omega)]⟩, ne⟩
  by_cases e : i = t
  · subst e; omega
  · omega
theorem SLI.put (h : SLI w gs C K vi vf gi gf ks vv N t) {kk : Nat} (hk : ks t = (kk : Nat)) (hK : kk < K) (hKb : K ≤ 65536) (hN : N ≤ 65536) (ht : t < N) {bl off : Nat} (hbl : gi ≠ bl)
    (hcs : w.cell? ⟨bl, off, none⟩ = some (.slice (some ⟨gs, 0, none⟩) (K + 1) C)) (hci : w.cell? ⟨bl, off + 1, none⟩ = some vi) (hcf : w.cell? ⟨bl, off + 2, none⟩ = some vf) (x : Int) (hx : x = vv t) {R : Ending → World → Prop}
    (hR : ∀ (i : Int) w', SLI w' gs C K vi vf gi gf ks vv N (t + 1) → Fr (fun x => x = gi ∨ x = gf) w w' → R (.returned (.int .i64 i)) w') :
    Calls Try.prog 32 #[.pointer (some ⟨bl, off, none⟩), .int .i64 kk, .int .i64 x] w R := by
  subst hx
  obtain ⟨hC, ⟨f, s1, s2⟩, ⟨fi, i1, i2⟩, ⟨ff, f1, f2⟩, ne⟩ := h
  have hpos : pos ks N t < stt ks N K := pos_lt ht (by omega) (by omega)
  have hpe : pos ks N t = stt ks N kk + cn (ky ks kk) t := by unfold pos; rw [hk]; rfl
  have hle := stt_le ks N K
  rcases i1 with ⟨e0, _⟩ | ⟨Ci, ci1, ci2, rfl, ci3⟩
  · omega
  rcases f1 with ⟨e0, _⟩ | ⟨Cf, cf1, cf2, rfl, cf3⟩
  · omega
  have a1 := s1.cell (i := kk) (by omega)
  rw [s2 kk (by omega)] at a1
  have a2 := ci3.cell (i := pos ks N t) (by omega)
  have a3 := cf3.cell (i := kk) (by omega)
  rw [f2 kk hK] at a3
  rw [hpe] at a2
  refine put32 bl off kk gs gi gf (K + 1) C (stt ks N K) Ci K Cf (stt ks N kk) (cn (ky ks kk) t) (vv t) hK rfl (by omega) (by omega) (by omega) w hcs hci hcf a1 _ a2 (ci3.frozen _) a3 (cf3.frozen _) hbl ne.1 ?_
  intro nq
  have hF : Fr (fun x => x = gi ∨ x = gf) w (((w.setCell ⟨gi, stt ks N kk + cn (ky ks kk) t, none⟩ (.int .i64 (vv t))).setCell ⟨gf, kk, none⟩ (.int .i64 (cn (ky ks kk) t + 1 : Nat))).drewN nq) :=
    (((Fr.setCell w ⟨gi, _, none⟩ _).mono (fun x hx => .inl hx)).trans ((Fr.setCell _ ⟨gf, kk, none⟩ _).mono (fun x hx => .inr hx))).drewN nq
  refine hR _ _ ⟨hC, ⟨f, hF.rowIs s1 (fun e => e.elim ne.2.1 ne.2.2), s2⟩, ⟨fun j => if j = pos ks N t then vv t else fi j, .inr ⟨Ci, ci1, ci2, rfl, ?_⟩, fun i hi h0 => ?_⟩, ⟨fun j => if j = kk then (cn (ky ks kk) t + 1 : Nat) else ff j, .inr ⟨Cf, cf1, cf2, rfl, ?_⟩, fun k hkK => ?_⟩, ne⟩ hF
  · refine World.rowIs.congr (World.rowIs.setOther (ci3.set (stt ks N kk + cn (ky ks kk) t) (.int .i64 (vv t))) ne.1 _) (fun j _ => ?_)
    dsimp only; rw [hpe]; split <;> rfl
  · by_cases e : i = t
    · subst e; dsimp only; rw [if_pos rfl]
    · dsimp only
      rw [if_neg (pos_ne (by omega) ht h0 (by omega))]
      exact i2 i (by omega) h0
  · refine World.rowIs.congr ((World.rowIs.setOther cf3 (fun e => ne.1 e.symm) _).set kk _) (fun j _ => ?_)
    dsimp only; split <;> rfl
  · dsimp only
    by_cases e : k = kk
    · subst e; rw [if_pos rfl, cn_hit hk]
    · rw [if_neg e, f2 k hkK, cn_skip (by omega)]

/-- v lists the values of the items of key k, in their order -/
def Grp (w : World) (v : Value) (ks vv : Nat → Int) (N k : Nat) : Prop :=
  ∃ f : Nat → Int, SlAt w v (cn (ky ks k) N) (fun j => .int .i64 (f j)) ∧ ∀ i, i < N → ks i = (k : Int) → f (cn (ky ks k) i) = vv i
theorem Grp.fr {S : Nat → Prop} {v : Value} {k : Nat} (h : Grp w v ks vv N k) (hf : Fr S w w') (hn : ∀ g, v.ownBlock = some g → ¬ S g) : Grp w' v ks vv N k := by
  obtain ⟨f, h1, h2⟩ := h
  exact ⟨f, hf.slAt h1 hn, h2⟩
theorem SLI.of (h : SLI w gs C K vi vf gi gf ks vv N N) {k : Nat} (hk : k < K) (hKb : K ≤ 65536) {R : Ending → World → Prop}
    (hR : ∀ ao' n' C' w', Grp w (.slice ao' n' C') ks vv N k → (∀ g, (Value.slice ao' n' C').ownBlock = some g → 0 < n' → g = gi) → Fr (fun _ => False) w w' → R (.returned (.slice ao' n' C')) w') :
    Calls Try.prog 33 #[.agg #[.slice (some ⟨gs, 0, none⟩) (K + 1) C, vi], .int .i64 k] w R := by
  obtain ⟨hC, ⟨f, s1, s2⟩, ⟨fi, i1, i2⟩, _, ne⟩ := h
  have a1 := s1.cell (i := k) (by omega)
  rw [s2 k (by omega)] at a1
  have a2 := s1.cell (i := k + 1) (by omega)
  rw [s2 (k + 1) (by omega)] at a2
  have hst : stt ks N (k + 1) = stt ks N k + cn (ky ks k) N := rfl
  have hmono : stt ks N (k + 1) ≤ stt ks N K := stt_mono (by omega)
  refine of33 k gs (K + 1) C (stt ks N K) gi (stt ks N k) (stt ks N (k + 1)) vi fi w (by omega) (by omega) (by omega) hmono i1 a1 a2 ?_
  intro ao' C' w' h1 h2
  have hd : stt ks N (k + 1) - stt ks N k = cn (ky ks k) N := by omega
  rw [hd] at h1 ⊢
  refine hR ao' _ C' w' ⟨fun j => fi (stt ks N k + j), ⟨ao', C', rfl, fun h0 => ⟨gi, stt ks N k, h1 h0, fun j hj => ?_⟩⟩, fun i hi hki => ?_⟩ (fun g hg h0 => ?_) h2
  · rcases i1 with ⟨e0, _⟩ | ⟨Ci, ci1, ci2, rfl, ci3⟩
    · omega
    · exact ci3.cell (by omega)
  · have := i2 i hi (by omega)
    have hpe : pos ks N i = stt ks N k + cn (ky ks k) i := by unfold pos; rw [hki]; rfl
    rw [hpe] at this
    exact this
  · rw [h1 h0] at hg
    simpa [Value.ownBlock] using hg.symm
end
/-- the queues -/
def QS (w : World) (v : Value) (K : Nat) (P : Nat → Value → Value → Prop) : Prop :=
  ∃ ao cap, ∃ A W : Nat → Value, v = .slice ao K cap ∧ (0 < K → ∃ b, ao = some ⟨b, 0, none⟩ ∧ ∀ k, k < K → w.cell? ⟨b, k * 5, none⟩ = some (A k) ∧ w.cell? ⟨b, k * 5 + 2, none⟩ = some (W k) ∧ w.cell? ⟨b, k * 5 + 4, none⟩ = some (.int .u8 0)) ∧ ∀ k, k < K → P k (A k) (W k)
theorem SlAt.cellAt {w : World} {ao : Option Addr} {n cap : Nat} {f : Nat → Value} (h : SlAt w (.slice ao n cap) n f) (hn : 0 < n) : ∃ b off, ao = some ⟨b, off, none⟩ ∧ ∀ j, j < n → w.cell? ⟨b, off + j, none⟩ = some (f j) := by
  obtain ⟨a, c, he, hc⟩ := h
  cases he
  exact hc hn
end Go.Proofs.Qxb6600184a
