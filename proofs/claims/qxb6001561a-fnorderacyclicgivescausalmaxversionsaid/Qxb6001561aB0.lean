import Derived.Test.Qxb6001561aA1
import Derived.Test.Qxb6001561aA2
import Derived.Deep.DeepCutAuto
import Derived.Deep.AppendLies
import Derived.Deep.RegionHeldLaw
import Derived.Deep.RegionLawGrows
namespace Go.Proofs.Qxb6001561a
set_option linter.unusedVariables false
set_option linter.unusedSimpArgs false
open Go.RowKit

/-- one more than the greatest of the first i session numbers -/
def kOf (s : Nat → Nat) : Nat → Nat
  | 0 => 0
  | i + 1 => if kOf s i < s i + 1 then s i + 1 else kOf s i
theorem kOf_le (s : Nat → Nat) (n : Nat) (hs : ∀ j, j < n → s j < n) : ∀ i, i ≤ n → kOf s i ≤ n
  | 0, _ => Nat.zero_le _
  | i + 1, h => by
    have := kOf_le s n hs i (by omega)
    have := hs i (by omega)
    simp only [kOf]; split <;> omega
theorem lt_kOf (s : Nat → Nat) : ∀ i j, j < i → s j < kOf s i
  | 0, j, h => absurd h (Nat.not_lt_zero j)
  | i + 1, j, h => by
    simp only [kOf]
    by_cases e : j = i
    · subst e; split <;> omega
    · have := lt_kOf s i j (by omega)
      split <;> omega

def opZero : Array Value := #[.int .i64 0, .int .i64 0, .string ⟨#[]⟩, .string ⟨#[]⟩, .int .u64 0, .int .i64 0, .int .i64 0, .string ⟨#[]⟩, .string ⟨#[]⟩, .string ⟨#[]⟩]
theorem Try.info43 : (Try.prog.info? 43).map (fun i => (i.zero, i.size, i.bytes)) = some (some (.agg opZero), 10, 120) := by kernel_rfl

theorem make_ops (n : Nat) (hn : n ≤ 1048576) (w : World) : (Instr.makeSlice 32 (.int .i64 (n : Int)) (.int .i64 (n : Int))).run Try.prog w =
    .ok (.slice (some ⟨w.heap.size, 0, none⟩) n n) (w.alloc (.cells (madeCells opZero (n * 10)) 43)) := by
  obtain ⟨i, hi, hz0, hz1, hz2⟩ := info_parts Try.info43
  have hr := run_make (P := Try.prog) w 32 43 i _ Try.underlying32 hi hz0 .i64 .i64 n n (by omega) (Int.le_refl _) (by rw [hz2]; omega) (by omega)
  simpa [hz1, Value.cells] using hr


/-- the operations of session q among the first i, in their order -/
def seqOf (s : Nat → Nat) (i q : Nat) : List Nat := (List.range i).filter (fun j => s j == q)
theorem seqOf_succ_same (s : Nat → Nat) (i : Nat) : seqOf s (i + 1) (s i) = seqOf s i (s i) ++ [i] := by
  simp [seqOf, List.range_succ]
theorem seqOf_succ_other (s : Nat → Nat) (i q : Nat) (h : q ≠ s i) : seqOf s (i + 1) q = seqOf s i q := by
  have : (s i == q) = false := by simp; exact fun e => h e.symm
  simp [seqOf, List.range_succ, this]
theorem seqOf_length (s : Nat → Nat) (i q : Nat) : (seqOf s i q).length ≤ i := by
  have := List.length_filter_le (fun j => s j == q) (List.range i)
  simpa [seqOf] using this

def placeOf (s : Nat → Nat) (i : Nat) : Nat := (seqOf s (i + 1) (s i)).length
def kindOf (n1 : Nat) (p : Nat → Bool) (j : Nat) : Value := if j < n1 ∧ p j = true then .string ⟨#[112, 117, 116]⟩ else .string ⟨#[103, 101, 116]⟩
def verOf (n2 : Nat) (ve : Nat → Int) (j : Nat) : Int := if j < n2 then ve j else 0
def intsV (l : List Nat) : List Value := l.map (fun j : Nat => Value.int .i64 (j : Int))

/-- WHAT zzBuild_hb1 HAS LAID: block B + 1 is h; B + 2 .. B + 6: ops, session, place, sources, seqs; each filled so far. -/
structure BI (w : World) (B n k n1 n2 m : Nat) (s : Nat → Nat) (p : Nat → Bool) (ve : Nat → Int) (S : Nat → Value) (io is ip ir iq : Nat) (sv : Nat → Value) (wr : World) : Prop where
  bel : Below B w wr
  size : B + 7 ≤ wr.heap.size
  res : ∃ c, wr.heap[B]? = some (.cells c 34 (0, 0)) ∧ c.size = 5
  head : wr.heap[B + 1]? = some (.cells #[.slice (some ⟨B + 2, 0, none⟩) n n, .slice (some ⟨B + 6, 0, none⟩) k k, .slice (some ⟨B + 3, 0, none⟩) n n, .slice (some ⟨B + 4, 0, none⟩) n n, .slice (some ⟨B + 5, 0, none⟩) n n] 34 (0, 0))
  ops : ∃ c, wr.heap[B + 2]? = some (.cells c 43 (0, 0)) ∧ c.size = n * 10 ∧ ∀ j, j < io → c[j * 10 + 2]? = some (kindOf n1 p j) ∧ c[j * 10 + 4]? = some (.int .u64 (verOf n2 ve j))
  sess : wr.rowIs (B + 3) 3 n (fun j => if j < is then .int .i64 (s j) else .int .i64 0)
  place : wr.rowIs (B + 4) 3 n (fun j => if j < ip then .int .i64 (placeOf s j) else .int .i64 0)
  srcs : wr.rowIs (B + 5) 22 n (fun j => if j < ir ∧ j < m then S j else .slice none 0 0)
  seqs : wr.rowIs (B + 6) 22 k sv
  rows : ∀ q, q < k → wr.ownsRow (B + 7) 3 1 (sv q) (seqOf s iq q).length (intsV (seqOf s iq q))
  apart : ∀ q q', q < k → q' < k → q ≠ q' → (sv q).ownBlock = none ∨ (sv q).ownBlock ≠ (sv q').ownBlock

theorem grownBy_setCell (w : World) (a : Addr) (v : Value) : w.grownBy (w.setCell a v) (some a.block) :=
  ⟨rfl, rfl, rfl, by simp [World.setCell], fun k _ hk => Below.heap_setCell w a v k (fun e => hk (by rw [e]))⟩
theorem grownBy_drew {w w' : World} {r : Option Nat} (h : w.grownBy w' r) : w.grownBy w'.drew r := ⟨h.os, h.tape, h.output, h.size, h.block⟩

section
variable {w wr wr' : World} {B n k n1 n2 m : Nat} {s : Nat → Nat} {p : Nat → Bool} {ve : Nat → Int} {S sv : Nat → Value} {io is ip ir iq : Nat}

theorem BI.start (w : World) (n k n1 n2 m : Nat) (s : Nat → Nat) (p : Nat → Bool) (ve : Nat → Int) (S : Nat → Value) :
    BI w w.heap.size n k n1 n2 m s p ve S 0 0 0 0 0 (fun _ => .slice none 0 0)
      (((((((w.alloc (.cells #[.slice none 0 0, .slice none 0 0, .slice none 0 0, .slice none 0 0, .slice none 0 0] 34)).alloc
        (.cells #[.slice (some ⟨w.heap.size + 2, 0, none⟩) n n, .slice (some ⟨w.heap.size + 6, 0, none⟩) k k, .slice (some ⟨w.heap.size + 3, 0, none⟩) n n, .slice (some ⟨w.heap.size + 4, 0, none⟩) n n, .slice (some ⟨w.heap.size + 5, 0, none⟩) n n] 34)).alloc
        (.cells (madeCells opZero (n * 10)) 43)).alloc (.cells (madeCells #[.int .i64 0] n) 3)).alloc (.cells (madeCells #[.int .i64 0] n) 3)).alloc (.cells (madeCells #[.slice none 0 0] n) 22)).alloc (.cells (madeCells #[.slice none 0 0] k) 22)) := by
  generalize h1 : w.alloc (.cells #[.slice none 0 0, .slice none 0 0, .slice none 0 0, .slice none 0 0, .slice none 0 0] 34) = w1
  have s1 : w1.heap.size = w.heap.size + 1 := by rw [← h1]; simp
  have b1 : Below w.heap.size w w1 := by rw [← h1]; exact (Below.refl _ _).alloc (Nat.le_refl _) _
  have r1 : w1.heap[w.heap.size]? = some (.cells #[.slice none 0 0, .slice none 0 0, .slice none 0 0, .slice none 0 0, .slice none 0 0] 34) := by rw [← h1]; exact Go.Deep.blk_alloc_new _ _
  clear h1
  generalize h2 : w1.alloc _ = w2
  have s2 : w2.heap.size = w.heap.size + 2 := by rw [← h2]; simp [s1]
  have b2 : Below w.heap.size w w2 := by rw [← h2]; exact b1.alloc (by omega) _
  have k2 : ∀ j, j < w.heap.size + 1 → w2.heap[j]? = w1.heap[j]? := fun j hj => by rw [← h2]; exact Go.Deep.blk_alloc_lt _ _ _ (by omega)
  have r2 : w2.heap[w.heap.size + 1]? = some (.cells #[.slice (some ⟨w.heap.size + 2, 0, none⟩) n n, .slice (some ⟨w.heap.size + 6, 0, none⟩) k k, .slice (some ⟨w.heap.size + 3, 0, none⟩) n n, .slice (some ⟨w.heap.size + 4, 0, none⟩) n n, .slice (some ⟨w.heap.size + 5, 0, none⟩) n n] 34) := by rw [← h2, ← s1]; exact Go.Deep.blk_alloc_new _ _
  clear h2
  generalize h3 : w2.alloc _ = w3
  have s3 : w3.heap.size = w.heap.size + 3 := by rw [← h3]; simp [s2]
  have b3 : Below w.heap.size w w3 := by rw [← h3]; exact b2.alloc (by omega) _
  have k3 : ∀ j, j < w.heap.size + 2 → w3.heap[j]? = w2.heap[j]? := fun j hj => by rw [← h3]; exact Go.Deep.blk_alloc_lt _ _ _ (by omega)
  have r3 : w3.heap[w.heap.size + 2]? = some (.cells (madeCells opZero (n * 10)) 43) := by rw [← h3, ← s2]; exact Go.Deep.blk_alloc_new _ _
  clear h3
  generalize h4 : w3.alloc _ = w4
  have s4 : w4.heap.size = w.heap.size + 4 := by rw [← h4]; simp [s3]
  have b4 : Below w.heap.size w w4 := by rw [← h4]; exact b3.alloc (by omega) _
  have k4 : ∀ j, j < w.heap.size + 3 → w4.heap[j]? = w3.heap[j]? := fun j hj => by rw [← h4]; exact Go.Deep.blk_alloc_lt _ _ _ (by omega)
  have r4 : w4.rowIs (w.heap.size + 3) 3 n (fun _ => .int .i64 0) := by rw [← h4, ← s3]; exact World.rowIs_made _ _ _ _
  clear h4
  generalize h5 : w4.alloc _ = w5
  have s5 : w5.heap.size = w.heap.size + 5 := by rw [← h5]; simp [s4]
  have b5 : Below w.heap.size w w5 := by rw [← h5]; exact b4.alloc (by omega) _
  have k5 : ∀ j, j < w.heap.size + 4 → w5.heap[j]? = w4.heap[j]? := fun j hj => by rw [← h5]; exact Go.Deep.blk_alloc_lt _ _ _ (by omega)
  have r5 : w5.rowIs (w.heap.size + 4) 3 n (fun _ => .int .i64 0) := by rw [← h5, ← s4]; exact World.rowIs_made _ _ _ _
  clear h5
  generalize h6 : w5.alloc _ = w6
  have s6 : w6.heap.size = w.heap.size + 6 := by rw [← h6]; simp [s5]
  have b6 : Below w.heap.size w w6 := by rw [← h6]; exact b5.alloc (by omega) _
  have k6 : ∀ j, j < w.heap.size + 5 → w6.heap[j]? = w5.heap[j]? := fun j hj => by rw [← h6]; exact Go.Deep.blk_alloc_lt _ _ _ (by omega)
  have r6 : w6.rowIs (w.heap.size + 5) 22 n (fun _ => .slice none 0 0) := by rw [← h6, ← s5]; exact World.rowIs_made _ _ _ _
  clear h6
  generalize h7 : w6.alloc _ = w7
  have s7 : w7.heap.size = w.heap.size + 7 := by rw [← h7]; simp [s6]
  have b7 : Below w.heap.size w w7 := by rw [← h7]; exact b6.alloc (by omega) _
  have k7 : ∀ j, j < w.heap.size + 6 → w7.heap[j]? = w6.heap[j]? := fun j hj => by rw [← h7]; exact Go.Deep.blk_alloc_lt _ _ _ (by omega)
  have r7 : w7.rowIs (w.heap.size + 6) 22 k (fun _ => .slice none 0 0) := by rw [← h7, ← s6]; exact World.rowIs_made _ _ _ _
  clear h7
  refine ⟨b7, by omega, ⟨_, by rw [k7 _ (by omega), k6 _ (by omega), k5 _ (by omega), k4 _ (by omega), k3 _ (by omega), k2 _ (by omega)]; exact r1, rfl⟩,
    by rw [k7 _ (by omega), k6 _ (by omega), k5 _ (by omega), k4 _ (by omega), k3 _ (by omega)]; exact r2,
    ⟨_, by rw [k7 _ (by omega), k6 _ (by omega), k5 _ (by omega), k4 _ (by omega)]; exact r3, size_madeCells _ _, fun j hj => absurd hj (Nat.not_lt_zero j)⟩,
    (r4.of_block (by rw [k7 _ (by omega), k6 _ (by omega), k5 _ (by omega)])).congr (fun j _ => by simp),
    (r5.of_block (by rw [k7 _ (by omega), k6 _ (by omega)])).congr (fun j _ => by simp),
    (r6.of_block (by rw [k7 _ (by omega)])).congr (fun j _ => by simp), r7, fun q _ => World.ownsRow_nil _ _ _ _, fun q q' _ _ _ => .inl rfl⟩

theorem BI.rowsLt (h : BI w B n k n1 n2 m s p ve S io is ip ir iq sv wr) {q b : Nat} (hq : q < k) (hb : (sv q).ownBlock = some b) : B + 7 ≤ b ∧ b < wr.heap.size := (h.rows q hq).lt b hb

/-- NEW BLOCKS ALONE. -/
theorem BI.grow (h : BI w B n k n1 n2 m s p ve S io is ip ir iq sv wr) (hg : wr.grownBy wr' none) : BI w B n k n1 n2 m s p ve S io is ip ir iq sv wr' := by
  have hz := h.size
  have hb : ∀ j, j < wr.heap.size → wr'.heap[j]? = wr.heap[j]? := fun j hj => hg.block j hj (by simp)
  refine ⟨h.bel.grown hg (by omega) (by simp), Nat.le_trans hz hg.size, ?_, ?_, ?_, h.sess.of_block (hb _ (by omega)), h.place.of_block (hb _ (by omega)), h.srcs.of_block (hb _ (by omega)), h.seqs.of_block (hb _ (by omega)), fun q hq => (h.rows q hq).kept hg (by cases (sv q).ownBlock <;> simp), h.apart⟩
  · rw [hb _ (by omega)]; exact h.res
  · rw [hb _ (by omega)]; exact h.head
  · rw [hb _ (by omega)]; exact h.ops

theorem BI.drew (h : BI w B n k n1 n2 m s p ve S io is ip ir iq sv wr) : BI w B n k n1 n2 m s p ve S io is ip ir iq sv wr.drew :=
  ⟨h.bel.drew, h.size, h.res, h.head, h.ops, h.sess, h.place, h.srcs, h.seqs, h.rows, h.apart⟩

/-- a block of the call's own that is none of these has turned -/
theorem BI.other (h : BI w B n k n1 n2 m s p ve S io is ip ir iq sv wr) {b : Nat} (hb7 : B + 7 ≤ b) (hne : ∀ q, q < k → (sv q).ownBlock ≠ some b) (hg : wr.grownBy wr' (some b)) : BI w B n k n1 n2 m s p ve S io is ip ir iq sv wr' := by
  have hz := h.size
  have hb : ∀ j, j < B + 7 → wr'.heap[j]? = wr.heap[j]? := fun j hj => hg.block j (by omega) (by simp; omega)
  refine ⟨h.bel.grown hg (by omega) (fun j hj => by cases hj; omega), Nat.le_trans hz hg.size, ?_, ?_, ?_, h.sess.of_block (hb _ (by omega)), h.place.of_block (hb _ (by omega)), h.srcs.of_block (hb _ (by omega)), h.seqs.of_block (hb _ (by omega)), fun q hq => (h.rows q hq).kept hg (.inr (hne q hq)), h.apart⟩
  · rw [hb _ (by omega)]; exact h.res
  · rw [hb _ (by omega)]; exact h.head
  · rw [hb _ (by omega)]; exact h.ops

/-- block b below B + 7 has turned; what stood elsewhere stands -/
theorem BI.part (h : BI w B n k n1 n2 m s p ve S io is ip ir iq sv wr) {b : Nat} (hb : B ≤ b) (hb7 : b < B + 7) (hg : wr.grownBy wr' (some b)) :
    (∀ j, j < wr.heap.size → j ≠ b → wr'.heap[j]? = wr.heap[j]?) ∧ Below B w wr' ∧ B + 7 ≤ wr'.heap.size ∧ (∀ q, q < k → wr'.ownsRow (B + 7) 3 1 (sv q) (seqOf s iq q).length (intsV (seqOf s iq q))) := by
  have hz := h.size
  refine ⟨fun j hj hne => hg.block j hj (by simpa using hne), h.bel.grown hg (by omega) (fun j hj => by cases hj; exact hb), Nat.le_trans hz hg.size, fun q hq => (h.rows q hq).kept hg ?_⟩
  cases hq' : (sv q).ownBlock with
  | none => exact .inl rfl
  | some g => refine .inr (fun e => ?_); have := (h.rowsLt hq hq').1; cases e; omega

theorem BI.setRes (h : BI w B n k n1 n2 m s p ve S io is ip ir iq sv wr) (o : Nat) (v : Value) : BI w B n k n1 n2 m s p ve S io is ip ir iq sv (wr.setCell ⟨B, o, none⟩ v) := by
  have hz := h.size
  obtain ⟨hb, h1, h2, h3⟩ := h.part (b := B) (by omega) (by omega) (grownBy_setCell wr ⟨B, o, none⟩ v)
  obtain ⟨c, hc, hcs⟩ := h.res
  exact ⟨h1, h2, ⟨_, heap_setCell_same wr B o c 34 v hc, by simpa using hcs⟩, by rw [hb _ (by omega) (by omega)]; exact h.head, by rw [hb _ (by omega) (by omega)]; exact h.ops,
    h.sess.of_block (hb _ (by omega) (by omega)), h.place.of_block (hb _ (by omega) (by omega)), h.srcs.of_block (hb _ (by omega) (by omega)), h.seqs.of_block (hb _ (by omega) (by omega)), h3, h.apart⟩

/-- ops[io] has been stored. -/
theorem BI.setOps (h : BI w B n k n1 n2 m s p ve S io is ip ir iq sv wr) (hg : wr.grownBy wr' (some (B + 2)))
    (ho : ∃ c, wr'.heap[B + 2]? = some (.cells c 43 (0, 0)) ∧ c.size = n * 10 ∧ ∀ j, j < io + 1 → c[j * 10 + 2]? = some (kindOf n1 p j) ∧ c[j * 10 + 4]? = some (.int .u64 (verOf n2 ve j))) :
    BI w B n k n1 n2 m s p ve S (io + 1) is ip ir iq sv wr' := by
  have hz := h.size
  obtain ⟨hb, h1, h2, h3⟩ := h.part (by omega) (by omega) hg
  exact ⟨h1, h2, by rw [hb _ (by omega) (by omega)]; exact h.res, by rw [hb _ (by omega) (by omega)]; exact h.head, ho,
    h.sess.of_block (hb _ (by omega) (by omega)), h.place.of_block (hb _ (by omega) (by omega)), h.srcs.of_block (hb _ (by omega) (by omega)), h.seqs.of_block (hb _ (by omega) (by omega)), h3, h.apart⟩



theorem BI.storeOp (h : BI w B n k n1 n2 m s p ve S io is ip ir iq sv wr) (hio : io < n) (v0 v1 v2 v3 v4 v5 v6 v7 v8 v9 : Value) (h2 : v2 = kindOf n1 p io) (h4 : v4 = .int .u64 (verOf n2 ve io)) :
    BI w B n k n1 n2 m s p ve S (io + 1) is ip ir iq sv ((((((((((wr.setCell ⟨B + 2, io * 10, none⟩ v0).setCell ⟨B + 2, io * 10 + 1, none⟩ v1).setCell ⟨B + 2, io * 10 + 2, none⟩ v2).setCell ⟨B + 2, io * 10 + 3, none⟩ v3).setCell ⟨B + 2, io * 10 + 4, none⟩ v4).setCell ⟨B + 2, io * 10 + 5, none⟩ v5).setCell ⟨B + 2, io * 10 + 6, none⟩ v6).setCell ⟨B + 2, io * 10 + 7, none⟩ v7).setCell ⟨B + 2, io * 10 + 8, none⟩ v8).setCell ⟨B + 2, io * 10 + 9, none⟩ v9) := by
  refine h.setOps ((((((((((grownBy_setCell _ ⟨B + 2, io * 10, none⟩ v0).trans (grownBy_setCell _ ⟨B + 2, io * 10 + 1, none⟩ v1)).trans (grownBy_setCell _ ⟨B + 2, io * 10 + 2, none⟩ v2)).trans (grownBy_setCell _ ⟨B + 2, io * 10 + 3, none⟩ v3)).trans (grownBy_setCell _ ⟨B + 2, io * 10 + 4, none⟩ v4)).trans (grownBy_setCell _ ⟨B + 2, io * 10 + 5, none⟩ v5)).trans (grownBy_setCell _ ⟨B + 2, io * 10 + 6, none⟩ v6)).trans (grownBy_setCell _ ⟨B + 2, io * 10 + 7, none⟩ v7)).trans (grownBy_setCell _ ⟨B + 2, io * 10 + 8, none⟩ v8)).trans (grownBy_setCell _ ⟨B + 2, io * 10 + 9, none⟩ v9)) ?_
  obtain ⟨c, hc, hcs, hcv⟩ := h.ops
  refine ⟨((((((((((c.setIfInBounds (io * 10) v0).setIfInBounds (io * 10 + 1) v1).setIfInBounds (io * 10 + 2) v2).setIfInBounds (io * 10 + 3) v3).setIfInBounds (io * 10 + 4) v4).setIfInBounds (io * 10 + 5) v5).setIfInBounds (io * 10 + 6) v6).setIfInBounds (io * 10 + 7) v7).setIfInBounds (io * 10 + 8) v8).setIfInBounds (io * 10 + 9) v9), (heap_setCell_same _ _ _ _ _ _ (heap_setCell_same _ _ _ _ _ _ (heap_setCell_same _ _ _ _ _ _ (heap_setCell_same _ _ _ _ _ _ (heap_setCell_same _ _ _ _ _ _ (heap_setCell_same _ _ _ _ _ _ (heap_setCell_same _ _ _ _ _ _ (heap_setCell_same _ _ _ _ _ _ (heap_setCell_same _ _ _ _ _ _ (heap_setCell_same _ _ _ _ _ _ hc)))))))))), by simpa using hcs, fun j hj => ?_⟩
  by_cases e : j = io
  · subst e
    subst h2 h4
    refine ⟨?_, ?_⟩
    · (repeat rw [Array.getElem?_setIfInBounds_ne (by omega)])
      rw [Array.getElem?_setIfInBounds_self_of_lt (by simp; omega)]
    · (repeat rw [Array.getElem?_setIfInBounds_ne (by omega)])
      rw [Array.getElem?_setIfInBounds_self_of_lt (by simp; omega)]
  · (repeat rw [Array.getElem?_setIfInBounds_ne (by omega)])
    exact hcv j (by omega)

theorem BI.setSess (h : BI w B n k n1 n2 m s p ve S io is ip ir iq sv wr) : BI w B n k n1 n2 m s p ve S io (is + 1) ip ir iq sv (wr.setCell ⟨B + 3, is, none⟩ (.int .i64 (s is))) := by
  have hz := h.size
  obtain ⟨hb, h1, h2, h3⟩ := h.part (b := B + 3) (by omega) (by omega) (grownBy_setCell wr ⟨B + 3, is, none⟩ (.int .i64 (s is)))
  refine ⟨h1, h2, by rw [hb _ (by omega) (by omega)]; exact h.res, by rw [hb _ (by omega) (by omega)]; exact h.head, by rw [hb _ (by omega) (by omega)]; exact h.ops,
    (h.sess.set is _).congr (fun j _ => ?_), h.place.of_block (hb _ (by omega) (by omega)), h.srcs.of_block (hb _ (by omega) (by omega)), h.seqs.of_block (hb _ (by omega) (by omega)), h3, h.apart⟩
  by_cases e : j = is
  · subst e; simp
  · simp only [if_neg e]
    by_cases h2 : j < is
    · rw [if_pos h2, if_pos (by omega)]
    · rw [if_neg h2, if_neg (by omega)]

theorem BI.setPlace (h : BI w B n k n1 n2 m s p ve S io is ip ir iq sv wr) : BI w B n k n1 n2 m s p ve S io is (ip + 1) ir iq sv (wr.setCell ⟨B + 4, ip, none⟩ (.int .i64 (placeOf s ip))) := by
  have hz := h.size
  obtain ⟨hb, h1, h2, h3⟩ := h.part (b := B + 4) (by omega) (by omega) (grownBy_setCell wr ⟨B + 4, ip, none⟩ (.int .i64 (placeOf s ip)))
  refine ⟨h1, h2, by rw [hb _ (by omega) (by omega)]; exact h.res, by rw [hb _ (by omega) (by omega)]; exact h.head, by rw [hb _ (by omega) (by omega)]; exact h.ops,
    h.sess.of_block (hb _ (by omega) (by omega)), (h.place.set ip _).congr (fun j _ => ?_), h.srcs.of_block (hb _ (by omega) (by omega)), h.seqs.of_block (hb _ (by omega) (by omega)), h3, h.apart⟩
  by_cases e : j = ip
  · subst e; simp
  · simp only [if_neg e]
    by_cases h2 : j < ip
    · rw [if_pos h2, if_pos (by omega)]
    · rw [if_neg h2, if_neg (by omega)]

theorem BI.setSrc (h : BI w B n k n1 n2 m s p ve S io is ip ir iq sv wr) (hm : ir < m) : BI w B n k n1 n2 m s p ve S io is ip (ir + 1) iq sv (wr.setCell ⟨B + 5, ir, none⟩ (S ir)) := by
  have hz := h.size
  obtain ⟨hb, h1, h2, h3⟩ := h.part (b := B + 5) (by omega) (by omega) (grownBy_setCell wr ⟨B + 5, ir, none⟩ (S ir))
  refine ⟨h1, h2, by rw [hb _ (by omega) (by omega)]; exact h.res, by rw [hb _ (by omega) (by omega)]; exact h.head, by rw [hb _ (by omega) (by omega)]; exact h.ops,
    h.sess.of_block (hb _ (by omega) (by omega)), h.place.of_block (hb _ (by omega) (by omega)), (h.srcs.set ir _).congr (fun j _ => ?_), h.seqs.of_block (hb _ (by omega) (by omega)), h3, h.apart⟩
  by_cases e : j = ir
  · subst e; simp [hm]
  · simp only [if_neg e]
    by_cases h2 : j < ir ∧ j < m
    · rw [if_pos h2, if_pos ⟨by omega, h2.2⟩]
    · rw [if_neg h2, if_neg (by omega)]
theorem BI.skipSrc (h : BI w B n k n1 n2 m s p ve S io is ip ir iq sv wr) (hm : ¬ ir < m) : BI w B n k n1 n2 m s p ve S io is ip (ir + 1) iq sv wr :=
  ⟨h.bel, h.size, h.res, h.head, h.ops, h.sess, h.place, h.srcs.congr (fun j _ => by
    by_cases h2 : j < ir ∧ j < m
    · rw [if_pos h2, if_pos ⟨by omega, h2.2⟩]
    · rw [if_neg h2, if_neg (by omega)]), h.seqs, h.rows, h.apart⟩

theorem BI.seqCell (h : BI w B n k n1 n2 m s p ve S io is ip ir iq sv wr) {q : Nat} (hq : q < k) {w1 : World} (hg : wr.grownBy w1 (sv q).ownBlock) :
    w1.cell? ⟨B + 6, q, none⟩ = some (sv q) ∧ w1.frozen? ⟨B + 6, q, none⟩ = false ∧ w1.cell? ⟨B + 1, 1, none⟩ = some (.slice (some ⟨B + 6, 0, none⟩) k k) := by
  have hz := h.size
  have hb : ∀ j, j < B + 7 → w1.heap[j]? = wr.heap[j]? := fun j hj => hg.block j (by omega) (fun e => by have := (h.rowsLt hq e.symm).1; omega)
  have hr := h.seqs.of_block (hb _ (by omega))
  refine ⟨hr.cell hq, hr.frozen q, ?_⟩
  have hh := h.head
  rw [← hb (B + 1) (by omega)] at hh
  rw [cell_of_row w1 _ 1 _ _ _ hh]; rfl

/-- h.seqs[q] = append(h.seqs[q], iq): the row of session q = s iq has grown (in place or anew) and its new value has been stored. -/
theorem BI.setSeq (h : BI w B n k n1 n2 m s p ve S io is ip ir iq sv wr) (hk : s iq < k) {w1 : World} {g cap : Nat} (hgrow : wr.grownBy w1 (sv (s iq)).ownBlock)
    (hown : w1.ownsRow (B + 7) 3 1 (.slice (some ⟨g, 0, none⟩) ((seqOf s iq (s iq)).length + 1) cap) ((seqOf s iq (s iq)).length + 1) (intsV (seqOf s iq (s iq)) ++ [.int .i64 (iq : Int)]))
    (hat : (sv (s iq)).ownBlock = some g ∨ wr.heap.size ≤ g) :
    BI w B n k n1 n2 m s p ve S io is ip ir (iq + 1) (fun q => if q = s iq then .slice (some ⟨g, 0, none⟩) ((seqOf s iq (s iq)).length + 1) cap else sv q)
      (w1.setCell ⟨B + 6, s iq, none⟩ (.slice (some ⟨g, 0, none⟩) ((seqOf s iq (s iq)).length + 1) cap)) := by
  have hz := h.size
  generalize hv : Value.slice (some ⟨g, 0, none⟩) ((seqOf s iq (s iq)).length + 1) cap = v at *
  have hvb : v.ownBlock = some g := by rw [← hv]; rfl
  have hgB : B + 7 ≤ g := (hown.lt g hvb).1
  have hb1 : ∀ j, j < B + 7 → w1.heap[j]? = wr.heap[j]? := fun j hj => hgrow.block j (by omega) (fun e => by have := (h.rowsLt hk e.symm).1; omega)
  have hs1 : wr.heap.size ≤ w1.heap.size := hgrow.size
  have hset := grownBy_setCell w1 ⟨B + 6, s iq, none⟩ v
  have hb2 : ∀ j, j < B + 7 → j ≠ B + 6 → (w1.setCell ⟨B + 6, s iq, none⟩ v).heap[j]? = wr.heap[j]? := fun j hj hne =>
    (hset.block j (by omega) (by simpa using hne)).trans (hb1 j hj)
  have hbel1 : Below B w w1 := h.bel.grown hgrow (by omega) (fun j hj => by have := (h.rowsLt hk hj).1; omega)
  have ne6 : ∀ {u : Value} {j : Nat} {xs : List Value} {W : World}, W.ownsRow (B + 7) 3 1 u j xs → u.ownBlock = none ∨ u.ownBlock ≠ some (B + 6) := by
    intro u j xs W hu
    cases hq' : u.ownBlock with
    | none => exact .inl rfl
    | some g => refine .inr (fun e => ?_); have := (hu.lt g hq').1; cases e; omega
  refine ⟨hbel1.setCell (by show B ≤ B + 6; omega) _, by have := hset.size; omega, by rw [hb2 _ (by omega) (by omega)]; exact h.res, by rw [hb2 _ (by omega) (by omega)]; exact h.head,
    by rw [hb2 _ (by omega) (by omega)]; exact h.ops, h.sess.of_block (hb2 _ (by omega) (by omega)), h.place.of_block (hb2 _ (by omega) (by omega)), h.srcs.of_block (hb2 _ (by omega) (by omega)),
    (((h.seqs.of_block (hb1 _ (by omega)))).set (s iq) v), fun q hq => ?_, fun q q' hq hq' hne => ?_⟩
  · by_cases e : q = s iq
    · subst e
      rw [if_pos rfl, seqOf_succ_same]
      have := hown.kept hset (ne6 hown)
      simpa [intsV] using this
    · rw [if_neg e, seqOf_succ_other _ _ _ e]
      have h1 : w1.ownsRow (B + 7) 3 1 (sv q) (seqOf s iq q).length (intsV (seqOf s iq q)) := (h.rows q hq).kept hgrow (h.apart q (s iq) hq hk e)
      exact h1.kept hset (ne6 h1)
  · by_cases e : q = s iq
    · by_cases e' : q' = s iq
      · exact absurd (e.trans e'.symm) hne
      · rw [if_pos e, if_neg e', hvb]
        cases hq'' : (sv q').ownBlock with
        | none => exact .inr (by simp)
        | some g' =>
          refine .inr (fun e2 => ?_)
          cases e2
          rcases hat with hat | hat
          · rcases h.apart q' (s iq) hq' hk e' with h5 | h5
            · rw [h5] at hq''; cases hq''
            · exact h5 (hq''.trans hat.symm)
          · have := (h.rowsLt hq' hq'').2; omega
    · by_cases e' : q' = s iq
      · rw [if_neg e, if_pos e', hvb]
        cases hq'' : (sv q).ownBlock with
        | none => exact .inl rfl
        | some g' =>
          refine .inr (fun e2 => ?_)
          cases e2
          rcases hat with hat | hat
          · rcases h.apart q (s iq) hq hk e with h5 | h5
            · rw [h5] at hq''; cases hq''
            · exact h5 (hq''.trans hat.symm)
          · have := (h.rowsLt hq hq'').2; omega
      · rw [if_neg e, if_neg e']; exact h.apart q q' hq hq' hne
end
end Go.Proofs.Qxb6001561a
