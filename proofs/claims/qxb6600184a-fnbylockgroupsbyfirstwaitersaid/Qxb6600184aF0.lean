import Derived.Test.Qxb6600184aD0
namespace Go.Proofs.Qxb6600184a
set_option linter.unusedVariables false
set_option linter.unusedSimpArgs false
open Go.RowKit

/-- append of nothing -/
theorem run_append_zero {P : Program} (w : World) (base : Nat) (t ty e : TypeId) (i : TypeInfo) (size : Nat) (ht : P.underlying t = some (.slice e)) (hi : P.info? e = some i)
    (v : Value) (n : Nat) (xs : List Value) (hown : w.ownsRow base e size v n xs) (a : Option Addr) (c : Nat) :
    (Builtin.append_ #[t, t] ty #[v, .slice a 0 c]).run P w = .ok v w := by
  rcases hown.2 with ⟨rfl, rfl⟩ | ⟨g, cap, cur, rfl, _, _, hnc, _⟩
  · cases a <;> simp [Builtin.append_, run_underlying ht, sizeOf, typeInfo, hi, Builtin.lenOf, Builtin.firstCells, loadCells, loadCellsFrom]
  · cases a <;> simp [Builtin.append_, run_underlying ht, sizeOf, typeInfo, hi, Builtin.lenOf, Builtin.firstCells, hnc, storeCells, loadCells, loadCellsFrom]

theorem wpList_append_zero {P : Program} (w : World) {ops : Array Oper} {rest : List Oper} {o : Oper} {a : Act} {Q : Exit → Act → World → Prop}
    (hg : o.guard = none) (s x : Operand) (t : TypeId) (hop : o.op = Op.call { callee := Callee.builtin Builtin.append, args := #[s, x], argTypes := #[t, t] })
    (base : Nat) (e : TypeId) (i : TypeInfo) (size : Nat) (ht : P.underlying t = some (.slice e)) (hi : P.info? e = some i)
    (v : Value) (n : Nat) (xs : List Value) (hs : a.eval s = v) (hown : w.ownsRow base e size v n xs) (ao : Option Addr) (c : Nat) (hx : a.eval x = .slice ao 0 c)
    (hK : wpList P ops Q rest (a.put o.dst v) w) : wpList P ops Q (o :: rest) a w := by
  refine wpList_plain hg fun K hK' => ?_
  have hrun := run_append_zero (P := P) w base t o.type e i size ht hi v n xs hown ao c
  unfold Oper.wp
  simp [execOp, hop, resolve, invoke, builtin, hs, hx, hrun, Result.andThen]
  exact hK' _ _ hK

/-- block b: K slices; the first k are copies: l j ints, f j i -/
def CP (H : Nat) (wr : World) (b K k : Nat) (l : Nat → Nat) (f : Nat → Nat → Int) : Prop :=
  ∃ X : Nat → Value, wr.rowIs b 22 K X ∧ ∀ j, j < k → SlAt wr (X j) (l j) (fun i => .int .i64 (f j i)) ∧ ∀ g, (X j).ownBlock = some g → 0 < l j → H ≤ g
theorem CP.fr {S : Nat → Prop} {H : Nat} {w w' : World} {b K k : Nat} {l : Nat → Nat} {f : Nat → Nat → Int} (h : CP H w b K k l f) (hf : Fr S w w') (hb : ¬ S b) (hS : ∀ x, S x → x < H) : CP H w' b K k l f := by
  obtain ⟨X, h1, h2⟩ := h
  refine ⟨X, hf.rowIs h1 hb, fun j hj => ?_⟩
  obtain ⟨p1, p2⟩ := h2 j hj
  refine ⟨?_, p2⟩
  by_cases h0 : 0 < l j
  · exact hf.slAt p1 (fun g hg e => by have := p2 g hg h0; have := hS g e; omega)
  · obtain ⟨ao, cap, he, _⟩ := p1
    exact ⟨ao, cap, he, fun h => absurd h h0⟩
theorem CP.store {H : Nat} {w : World} {b K k : Nat} {l : Nat → Nat} {f : Nat → Nat → Int} (h : CP H w b K k l f) (hb : b < H) {v : Value} (hv : SlAt w v (l k) (fun i => .int .i64 (f k i))) (hown : ∀ g, v.ownBlock = some g → 0 < l k → H ≤ g) : CP H (w.setCell ⟨b, k, none⟩ v) b K (k + 1) l f := by
  obtain ⟨X, h1, h2⟩ := h
  have hF := Fr.setCell w ⟨b, k, none⟩ v
  have key : ∀ (u : Value) (j : Nat), SlAt w u (l j) (fun i => .int .i64 (f j i)) → (∀ g, u.ownBlock = some g → 0 < l j → H ≤ g) → SlAt (w.setCell ⟨b, k, none⟩ v) u (l j) (fun i => .int .i64 (f j i)) := by
    intro u j p1 p2
    by_cases h0 : 0 < l j
    · exact hF.slAt p1 (fun g hg e => by have := p2 g hg h0; have e' : g = b := e; omega)
    · obtain ⟨ao, cap, he, _⟩ := p1
      exact ⟨ao, cap, he, fun h => absurd h h0⟩
  refine ⟨fun j => if j = k then v else X j, h1.set k v, fun j hj => ?_⟩
  show SlAt _ (if j = k then v else X j) _ _ ∧ ∀ g, (if j = k then v else X j).ownBlock = some g → _
  by_cases e : j = k
  · subst e
    rw [if_pos rfl]
    exact ⟨key v j hv hown, hown⟩
  · rw [if_neg e]
    obtain ⟨p1, p2⟩ := h2 j (by omega)
    exact ⟨key _ j p1 p2, p2⟩

theorem grow_fr {wr w1 : World} {o : Obj} (h : (wr.alloc o).grownBy w1 (some wr.heap.size)) : Fr (fun _ => False) wr w1 :=
  (Fr.alloc wr o).step (Fr.of_grown h) (fun x hx => .inr (by
    have : x = wr.heap.size := by simpa using hx
    omega))
theorem own_empty (w : World) (base : Nat) (hb : base ≤ w.heap.size) : (w.alloc (.cells #[] 3)).ownsRow base 3 1 (.slice (some ⟨w.heap.size, 0, none⟩) 0 0) 0 [] :=
  ⟨rfl, .inr ⟨w.heap.size, 0, #[], rfl, hb, Go.Deep.blk_alloc_new _ _, Nat.le_refl _, Nat.zero_le _, rfl, rfl⟩⟩

structure FL (w : World) (K : Nat) (lA : Nat → Nat) (fA : Nat → Nat → Int) (lW : Nat → Nat) (fW : Nat → Nat → Int) (ka kw : Nat) (wr : World) : Prop where
  bel : Below w.heap.size w wr
  sz : w.heap.size + 3 ≤ wr.heap.size
  a : CP (w.heap.size + 3) wr w.heap.size K ka lA fA
  x : CP (w.heap.size + 3) wr (w.heap.size + 1) K kw lW fW
  z : wr.rowIs (w.heap.size + 1 + 1) 3 K (fun _ => .int .i64 0)
section
variable {w wr w' : World} {K : Nat} {lA : Nat → Nat} {fA : Nat → Nat → Int} {lW : Nat → Nat} {fW : Nat → Nat → Int} {ka kw : Nat}
theorem FL.fr (h : FL w K lA fA lW fW ka kw wr) (hf : Fr (fun _ => False) wr w') : FL w K lA fA lW fW ka kw w' :=
  ⟨Fr.below h.bel hf (by have := h.sz; omega) (fun x hx => hx.elim), Nat.le_trans h.sz hf.size, h.a.fr hf (fun h => h) (fun x hx => hx.elim), h.x.fr hf (fun h => h) (fun x hx => hx.elim), hf.rowIs h.z (fun h => h)⟩
theorem FL.cellA (h : FL w K lA fA lW fW ka kw wr) {k : Nat} (hk : k < K) : ∃ y, wr.cell? ⟨w.heap.size, k, none⟩ = some y := by
  obtain ⟨X, h1, _⟩ := h.a
  exact ⟨_, h1.cell hk⟩
theorem FL.fzA (h : FL w K lA fA lW fW ka kw wr) (k : Nat) : wr.frozen? ⟨w.heap.size, k, none⟩ = false := by
  obtain ⟨X, h1, _⟩ := h.a
  exact h1.frozen k
theorem FL.cellW (h : FL w K lA fA lW fW ka kw wr) {k : Nat} (hk : k < K) : ∃ y, wr.cell? ⟨w.heap.size + 1, k, none⟩ = some y := by
  obtain ⟨X, h1, _⟩ := h.x
  exact ⟨_, h1.cell hk⟩
theorem FL.fzW (h : FL w K lA fA lW fW ka kw wr) (k : Nat) : wr.frozen? ⟨w.heap.size + 1, k, none⟩ = false := by
  obtain ⟨X, h1, _⟩ := h.x
  exact h1.frozen k
theorem FL.storeA (h : FL w K lA fA lW fW ka kw wr) {v : Value} (hv : SlAt wr v (lA ka) (fun i => .int .i64 (fA ka i))) (hown : ∀ g, v.ownBlock = some g → 0 < lA ka → w.heap.size + 3 ≤ g) : FL w K lA fA lW fW (ka + 1) kw (wr.setCell ⟨w.heap.size, ka, none⟩ v) := by
  have hF := Fr.setCell wr ⟨w.heap.size, ka, none⟩ v
  exact ⟨Fr.below h.bel hF (by have := h.sz; omega) (fun x hx => by subst hx; exact Nat.le_refl _), Nat.le_trans h.sz hF.size, h.a.store (by omega) hv hown, h.x.fr hF (fun e => by have e' : w.heap.size + 1 = w.heap.size := e; omega) (fun x hx => by have e' : x = w.heap.size := hx; omega), hF.rowIs h.z (fun e => by have e' : w.heap.size + 1 + 1 = w.heap.size := e; omega)⟩
theorem FL.storeW (h : FL w K lA fA lW fW ka kw wr) {v : Value} (hv : SlAt wr v (lW kw) (fun i => .int .i64 (fW kw i))) (hown : ∀ g, v.ownBlock = some g → 0 < lW kw → w.heap.size + 3 ≤ g) : FL w K lA fA lW fW ka (kw + 1) (wr.setCell ⟨w.heap.size + 1, kw, none⟩ v) := by
  have hF := Fr.setCell wr ⟨w.heap.size + 1, kw, none⟩ v
  exact ⟨Fr.below h.bel hF (by have := h.sz; omega) (fun x hx => by have e' : x = w.heap.size + 1 := hx; omega), Nat.le_trans h.sz hF.size, h.a.fr hF (fun e => by have e' : w.heap.size = w.heap.size + 1 := e; omega) (fun x hx => by have e' : x = w.heap.size + 1 := hx; omega), h.x.store (by omega) hv hown, hF.rowIs h.z (fun e => by have e' : w.heap.size + 1 + 1 = w.heap.size + 1 := e; omega)⟩
theorem FL.store3 (h : FL w K lA fA lW fW ka kw wr) (k : Nat) : FL w K lA fA lW fW ka kw (wr.setCell ⟨w.heap.size + 1 + 1, k, none⟩ (.int .i64 0)) := by
  have hF := Fr.setCell wr ⟨w.heap.size + 1 + 1, k, none⟩ (.int .i64 0)
  exact ⟨Fr.below h.bel hF (by have := h.sz; omega) (fun x hx => by have e' : x = w.heap.size + 1 + 1 := hx; omega), Nat.le_trans h.sz hF.size, h.a.fr hF (fun e => by have e' : w.heap.size = w.heap.size + 1 + 1 := e; omega) (fun x hx => by have e' : x = w.heap.size + 1 + 1 := hx; omega), h.x.fr hF (fun e => by have e' : w.heap.size + 1 = w.heap.size + 1 + 1 := e; omega) (fun x hx => by have e' : x = w.heap.size + 1 + 1 := hx; omega), (h.z.set k _).congr (fun j _ => by simp)⟩
end

set_option maxRecDepth 100000 in
set_option maxHeartbeats 4000000 in
theorem flat14 (ao : Option Addr) (K cap : Nat) (A W : Nat → Value) (lA lW : Nat → Nat) (fA fW : Nat → Nat → Int) (w : World) (hK : K ≤ 65536)
    (hq : 0 < K → ∃ b, ao = some ⟨b, 0, none⟩ ∧ ∀ k, k < K → w.cell? ⟨b, k * 5, none⟩ = some (A k) ∧ w.cell? ⟨b, k * 5 + 2, none⟩ = some (W k) ∧ w.cell? ⟨b, k * 5 + 4, none⟩ = some (.int .u8 0))
    (hA : ∀ k, k < K → SlAt w (A k) (lA k) (fun i => .int .i64 (fA k i)) ∧ lA k ≤ 65536) (hW : ∀ k, k < K → SlAt w (W k) (lW k) (fun i => .int .i64 (fW k i)) ∧ lW k ≤ 65536) {R : Ending → World → Prop}
    (hR : ∀ XA XW b1 b2 b3 w', SlAt w' (.slice (some ⟨b1, 0, none⟩) K K) K XA → SlAt w' (.slice (some ⟨b2, 0, none⟩) K K) K XW → SlAt w' (.slice (some ⟨b3, 0, none⟩) K K) K (fun _ => .int .i64 0) →
      (∀ k, k < K → SlAt w' (XA k) (lA k) (fun i => .int .i64 (fA k i)) ∧ SlAt w' (XW k) (lW k) (fun i => .int .i64 (fW k i))) → Below w.heap.size w w' → R (.returned (.tuple #[.slice (some ⟨b1, 0, none⟩) K K, .slice (some ⟨b2, 0, none⟩) K K, .slice (some ⟨b3, 0, none⟩) K K])) w') :
    Calls Try.prog 14 #[.slice ao K cap] w R := by
  have HR : Hid _ := hR
  clear hR
  have hm1 := run_make_row' (P := Try.prog) 32 22 (.slice none 0 0) 24 Try.underlying32 Try.info22 rfl .i64 .i64 K (by omega) (by omega)
  have hm2 := run_make_row' (P := Try.prog) 22 3 (.int .i64 0) 8 Try.underlying22 Try.info3 rfl .i64 .i64 K (by omega) (by omega)
  go_enter Try.func14, Try.ntmps14
  go_wp2_with (fail)
  clear hm1 hm2
  go_loopg [5] K (fun gh i wr => ∃ k : Nat, k ≤ K ∧ gh = K - k ∧ i = .int .i64 k ∧ FL w K lA fA lW fW k k wr)
  case atStart =>
    refine ⟨0, Nat.zero_le _, rfl, rfl, ?_⟩
    have b1 := ((Below.refl w.heap.size w).alloc (Nat.le_refl _) (.cells (madeCells #[.slice none 0 0] K) 22))
    refine ⟨?_, by simp, ⟨fun _ => .slice none 0 0, ?_, fun j hj => absurd hj (Nat.not_lt_zero j)⟩, ⟨fun _ => .slice none 0 0, ?_, fun j hj => absurd hj (Nat.not_lt_zero j)⟩, ?_⟩
    · exact (b1.alloc (by simp) _).alloc (by simp; omega) _
    · exact ((World.rowIs_made w (.slice none 0 0) K 22).alloc _).alloc _
    · have := (World.rowIs_made (w.alloc (.cells (madeCells #[.slice none 0 0] K) 22)) (.slice none 0 0) K 22).alloc (.cells (madeCells #[.int .i64 0] K) 3)
      simpa using this
    · have := World.rowIs_made ((w.alloc (.cells (madeCells #[.slice none 0 0] K) 22)).alloc (.cells (madeCells #[.slice none 0 0] K) 22)) (.int .i64 0) K 3
      simpa using this
  case round =>
    obtain ⟨k, hk, rfl, rfl, hF⟩ := hrel
    obtain ⟨i0, hi0, hz0, hz1, hz2⟩ := info_parts Try.info3
    by_cases hlt : k < K
    · obtain ⟨b, hb, hcells⟩ := hq (by omega)
      subst hb
      obtain ⟨cA, cW, cR⟩ := hcells k hlt
      obtain ⟨sA, lA1⟩ := hA k hlt
      obtain ⟨sW, lW1⟩ := hW k hlt
      have HC : Hid _ := And.intro cA (And.intro cW cR)
      have HS : Hid _ := And.intro sA sW
      have HQ : Hid _ := hq
      have HAA : Hid _ := hA
      have HWW : Hid _ := hW
      clear hcells cA cW cR sA sW hq hA hW
      go_upto_region 7 with (fail)
      go_cut [] (fun wd => FL w K lA fA lW fW (k + 1) k wd)
      case first =>
        obtain ⟨aX, cX, hXe, hcX⟩ := HS.out.1.below hF.bel
        have cc := cell_below hF.bel HC.out.1
        rw [hXe] at cc
        obtain ⟨y, dy⟩ := hF.cellA hlt
        have dz := hF.fzA k
        have hbw := World.block_lt_of_cell? wr _ dy
        have hbb := World.block_lt_of_cell? wr _ cc
        by_cases h0 : lA k = 0
        · have hv0 : SlAt wr (.slice (some ⟨wr.heap.size, 0, none⟩) 0 0) (lA k) (fun i => .int .i64 (fA k i)) := by rw [h0]; exact ⟨_, _, rfl, fun h => absurd h (Nat.lt_irrefl 0)⟩
          have HFN : Hid _ := (hF.storeA hv0 (fun g hg h => by omega)).fr (Fr.alloc _ (.cells #[] 3))
          rw [h0] at cc
          clear hcX hv0
          go_wp2_with (at_builtin; refine wpList_append_zero _ rfl _ _ 22 rfl wr.heap.size 3 i0 1 Try.underlying22 hi0 (.slice (some ⟨wr.heap.size, 0, none⟩) 0 0) 0 [] rfl (by exact own_empty wr _ (Nat.le_refl _)) aX cX rfl ?_)
          go_meet
          case rel => exact HFN.out
        · obtain ⟨sb, so, hsb, hcell⟩ := hcX (by omega)
          subst hsb
          have hnews : ∀ j u, (ints (fA k) (lA k))[j]? = some u → (wr.alloc (.cells #[] 3)).cell? ((⟨sb, so, none⟩ : Addr).add j) = some u := by
            intro j u hu
            have hj : j < lA k := by have := (List.getElem?_eq_some_iff.1 hu).1; rwa [ints_len] at this
            rw [ints_get _ hj] at hu
            cases hu
            have hadd : (⟨sb, so, none⟩ : Addr).add j = ⟨sb, so + j, none⟩ := by unfold Addr.add; split <;> simp_all
            rw [hadd, World.cell?_alloc_lt _ _ _ (World.block_lt_of_cell? wr _ (hcell j hj))]
            exact hcell j hj
          have HNW : Hid _ := hnews
          have HFF : Hid _ := hF
          have HCC : Hid _ := hcell
          clear hnews hcell
          go_wp2_with (at_builtin; refine wpList_append_lies _ rfl _ _ 22 rfl wr.heap.size 3 i0 (.int .i64 0) 1 8 Try.underlying22 hi0 hz0 hz1 hz2 rfl (by decide) (.slice (some ⟨wr.heap.size, 0, none⟩) 0 0) 0 [] rfl (by exact own_empty wr _ (Nat.le_refl _)) ⟨sb, so, none⟩ (lA k) cX (ints (fA k) (lA k)) rfl (by rw [ints_len]; omega) HNW.out (by intro u hu; obtain ⟨_, _, rfl⟩ := List.mem_map.1 hu; rfl) (by omega) (by unfold maxLen; omega) (by omega) (by simp) _ rfl ?_; intro g1 cap1 w1 hown1 hgrow1 hat1 hlt1; have HF1 : Hid (FL w K lA fA lW fW k k w1) := HFF.out.fr (grow_fr hgrow1); obtain ⟨y1, dy1⟩ := HF1.out.cellA hlt; have dz1 := HF1.out.fzA k; have HO1 : Hid _ := hown1; clear hown1 hgrow1 hat1 hlt1)
          go_meet
          case rel =>
            have ho := HO1.out
            rw [Nat.zero_add, List.nil_append] at ho
            have hsz := hF.sz
            refine HF1.out.storeA (by simpa using ownsRow_cell ho) (fun g hg _ => ?_)
            have := (ownsRow_own ho g (by simpa using hg)).1
            omega
      case rest =>
        clear hF
        have hF := hcut
        clear hcut
        go_upto_region 8 with (fail)
        go_cut [] (fun wd => FL w K lA fA lW fW (k + 1) (k + 1) wd)
        case first =>
          obtain ⟨aX, cX, hXe, hcX⟩ := HS.out.2.below hF.bel
          have cc := cell_below hF.bel HC.out.2.1
          rw [hXe] at cc
          obtain ⟨y, dy⟩ := hF.cellW hlt
          have dz := hF.fzW k
          have hbw := World.block_lt_of_cell? wc _ dy
          have hbb := World.block_lt_of_cell? wc _ cc
          by_cases h0 : lW k = 0
          · have hv0 : SlAt wc (.slice (some ⟨wc.heap.size, 0, none⟩) 0 0) (lW k) (fun i => .int .i64 (fW k i)) := by rw [h0]; exact ⟨_, _, rfl, fun h => absurd h (Nat.lt_irrefl 0)⟩
            have HFN : Hid _ := (hF.storeW hv0 (fun g hg h => by omega)).fr (Fr.alloc _ (.cells #[] 3))
            rw [h0] at cc
            clear hcX hv0
            go_wp2_with (at_builtin; refine wpList_append_zero _ rfl _ _ 22 rfl wc.heap.size 3 i0 1 Try.underlying22 hi0 (.slice (some ⟨wc.heap.size, 0, none⟩) 0 0) 0 [] rfl (by exact own_empty wc _ (Nat.le_refl _)) aX cX rfl ?_)
            go_meet
            case rel => exact HFN.out
          · obtain ⟨sb, so, hsb, hcell⟩ := hcX (by omega)
            subst hsb
            have hnews : ∀ j u, (ints (fW k) (lW k))[j]? = some u → (wc.alloc (.cells #[] 3)).cell? ((⟨sb, so, none⟩ : Addr).add j) = some u := by
              intro j u hu
              have hj : j < lW k := by have := (List.getElem?_eq_some_iff.1 hu).1; rwa [ints_len] at this
              rw [ints_get _ hj] at hu
              cases hu
              have hadd : (⟨sb, so, none⟩ : Addr).add j = ⟨sb, so + j, none⟩ := by unfold Addr.add; split <;> simp_all
              rw [hadd, World.cell?_alloc_lt _ _ _ (World.block_lt_of_cell? wc _ (hcell j hj))]
              exact hcell j hj
            have HNW : Hid _ := hnews
            have HFF : Hid _ := hF
            have HCC : Hid _ := hcell
            clear hnews hcell
            go_wp2_with (at_builtin; refine wpList_append_lies _ rfl _ _ 22 rfl wc.heap.size 3 i0 (.int .i64 0) 1 8 Try.underlying22 hi0 hz0 hz1 hz2 rfl (by decide) (.slice (some ⟨wc.heap.size, 0, none⟩) 0 0) 0 [] rfl (by exact own_empty wc _ (Nat.le_refl _)) ⟨sb, so, none⟩ (lW k) cX (ints (fW k) (lW k)) rfl (by rw [ints_len]; omega) HNW.out (by intro u hu; obtain ⟨_, _, rfl⟩ := List.mem_map.1 hu; rfl) (by omega) (by unfold maxLen; omega) (by omega) (by simp) _ rfl ?_; intro g1 cap1 w1 hown1 hgrow1 hat1 hlt1; have HF1 : Hid (FL w K lA fA lW fW (k + 1) k w1) := HFF.out.fr (grow_fr hgrow1); obtain ⟨y1, dy1⟩ := HF1.out.cellW hlt; have dz1 := HF1.out.fzW k; have HO1 : Hid _ := hown1; clear hown1 hgrow1 hat1 hlt1)
            go_meet
            case rel =>
              have ho := HO1.out
              rw [Nat.zero_add, List.nil_append] at ho
              have hsz := hF.sz
              refine HF1.out.storeW (by simpa using ownsRow_cell ho) (fun g hg _ => ?_)
              have := (ownsRow_own ho g (by simpa using hg)).1
              omega
        case rest =>
          clear hF
          have hF := hcut
          clear hcut
          have cR := cell_below (hF.bel) HC.out.2.2
          have d1 := hF.z.cell hlt
          have d2 := hF.z.frozen k
          go_wp2_with (fail)
          go_roundg (K - (k + 1))
          case measure => omega
          case rel => exact ⟨k + 1, by omega, rfl, by go_num, hF.store3 k⟩
    · have hkn : K = k := by omega
      subst hkn
      obtain ⟨XA, a1, a2⟩ := hF.a
      obtain ⟨XW, x1, x2⟩ := hF.x
      clear hq hA hW
      go_wp2_with (fail)
      go_ret3
      exact HR.out XA XW _ _ _ _ (SlAt.row a1) (SlAt.row x1) (SlAt.row hF.z) (fun q hq => ⟨(a2 q hq).1, (x2 q hq).1⟩) hF.bel
end Go.Proofs.Qxb6600184a
