import Derived.Test.Qxb6600184aP0
import Derived.WalkKit
import Derived.WalkSmall
import Derived.BigQuiet
import Derived.Deep.QuietTactic
import Derived.Deep.OwnRows
import Derived.Deep.LoopGhost
import Derived.Deep.DeepCutAuto
import Derived.Deep.AppendLies
import Derived.Laws.Cover3
import Derived.Maps.OwnSet
namespace Go.Proofs.Qxb6600184a
set_option linter.unusedVariables false
set_option linter.unusedSimpArgs false
open Go.RowKit

/-- The slice value v has n elements of one cell each; element j holds f j. -/
def SlAt (w : World) (v : Value) (n : Nat) (f : Nat → Value) : Prop :=
  ∃ ao cap, v = .slice ao n cap ∧ (0 < n → ∃ b off, ao = some ⟨b, off, none⟩ ∧ ∀ j, j < n → w.cell? ⟨b, off + j, none⟩ = some (f j))

theorem SlAt.nil (w : World) (f : Nat → Value) : SlAt w (.slice none 0 0) 0 f := ⟨none, 0, rfl, fun h => absurd h (Nat.lt_irrefl 0)⟩

theorem cell_below {w w' : World} (h : Below w.heap.size w w') {a : Addr} {v : Value} (hc : w.cell? a = some v) : w'.cell? a = some v :=
  (h.cell (World.block_lt_of_cell? w a hc)).trans hc

theorem SlAt.below {w w' : World} {v : Value} {n : Nat} {f : Nat → Value} (h : SlAt w v n f) (hb : Below w.heap.size w w') : SlAt w' v n f := by
  obtain ⟨ao, cap, rfl, hc⟩ := h
  refine ⟨ao, cap, rfl, fun h0 => ?_⟩
  obtain ⟨b, off, rfl, hcell⟩ := hc h0
  exact ⟨b, off, rfl, fun j hj => cell_below hb (hcell j hj)⟩

theorem SlAt.congr {w : World} {v : Value} {n : Nat} {f g : Nat → Value} (h : SlAt w v n f) (e : ∀ j, j < n → f j = g j) : SlAt w v n g := by
  obtain ⟨ao, cap, rfl, hc⟩ := h
  refine ⟨ao, cap, rfl, fun h0 => ?_⟩
  obtain ⟨b, off, rfl, hcell⟩ := hc h0
  exact ⟨b, off, rfl, fun j hj => by rw [hcell j hj, e j hj]⟩

theorem SlAt.row {w : World} {b : Nat} {t : TypeId} {n c : Nat} {f : Nat → Value} (h : w.rowIs b t n f) : SlAt w (.slice (some ⟨b, 0, none⟩) n c) n f :=
  ⟨_, _, rfl, fun _ => ⟨b, 0, rfl, fun j hj => by rw [Nat.zero_add]; exact h.cell hj⟩⟩

/-- 's == nil' of a slice. -/
theorem run_eql_slice_nil {P : Program} (w : World) (t e : TypeId) (a : Option Addr) (l c : Nat) (h : P.underlying t = some (.slice e)) :
    (binOp .eql t (.slice a l c) (.slice none 0 0)).run P w = .ok (.bool a.isNone) w := by
  simp only [binOp]
  simp [run_equal_slice_nil w t e a l c h]

/-- nothing turns but blocks of S and new ones -/
structure Fr (S : Nat → Prop) (w w' : World) : Prop where
  os : w'.os = w.os
  tape : w'.tape = w.tape
  output : w'.output = w.output
  size : w.heap.size ≤ w'.heap.size
  block : ∀ b, b < w.heap.size → ¬ S b → w'.heap[b]? = w.heap[b]?
section
variable {S S' : Nat → Prop} {a b c w w' : World}
theorem Fr.refl (S : Nat → Prop) (w : World) : Fr S w w := ⟨rfl, rfl, rfl, Nat.le_refl _, fun _ _ _ => rfl⟩
theorem Fr.trans (h : Fr S a b) (k : Fr S b c) : Fr S a c :=
  ⟨k.os.trans h.os, k.tape.trans h.tape, k.output.trans h.output, Nat.le_trans h.size k.size, fun x hx hs => (k.block x (Nat.lt_of_lt_of_le hx h.size) hs).trans (h.block x hx hs)⟩
theorem Fr.mono (h : Fr S a b) (hs : ∀ x, S x → S' x) : Fr S' a b := ⟨h.os, h.tape, h.output, h.size, fun x hx hn => h.block x hx (fun e => hn (hs x e))⟩
/-- a later frame may touch what is new since a -/
theorem Fr.step (h : Fr S a b) (k : Fr S' b c) (hs : ∀ x, S' x → S x ∨ a.heap.size ≤ x) : Fr S a c :=
  ⟨k.os.trans h.os, k.tape.trans h.tape, k.output.trans h.output, Nat.le_trans h.size k.size, fun x hx hn =>
    (k.block x (Nat.lt_of_lt_of_le hx h.size) (fun e => (hs x e).elim hn (fun h2 => by omega))).trans (h.block x hx hn)⟩
theorem Fr.of_grown {r : Option Nat} (h : w.grownBy w' r) : Fr (fun x => some x = r) w w' := ⟨h.os, h.tape, h.output, h.size, fun x hx hs => h.block x hx hs⟩
theorem Fr.setCell (w : World) (p : Addr) (v : Value) : Fr (· = p.block) w (w.setCell p v) := ⟨rfl, rfl, rfl, by simp [World.setCell], fun x hx hn => heap_setCell_other _ _ _ _ hn⟩
theorem Fr.alloc (w : World) (o : Obj) : Fr (fun _ => False) w (w.alloc o) := ⟨rfl, rfl, rfl, by simp, fun x hx _ => Go.Deep.blk_alloc_lt _ _ _ hx⟩
theorem Fr.drew (h : Fr S a b) : Fr S a b.drew := ⟨h.os, h.tape, h.output, h.size, h.block⟩
theorem Fr.drewN (h : Fr S a b) (n : Nat) : Fr S a (b.drewN n) := ⟨h.os, h.tape, h.output, h.size, h.block⟩
theorem Fr.below {B : Nat} {w0 : World} (h : Below B w0 a) (k : Fr S a b) (hB : B ≤ a.heap.size) (hS : ∀ x, S x → B ≤ x) : Below B w0 b :=
  h.trans ⟨k.os, k.tape, k.output, k.size, fun x hx => k.block x (Nat.lt_of_lt_of_le hx hB) (fun e => by have := hS x e; omega)⟩
theorem Fr.of_below (h : Below a.heap.size a b) : Fr S a b := ⟨h.os, h.tape, h.output, h.size, fun x hx _ => h.block x hx⟩
theorem Fr.cell (h : Fr S a b) {p : Addr} {v : Value} (hn : ¬ S p.block) (hc : a.cell? p = some v) : b.cell? p = some v :=
  (World.cell?_of_block (h.block _ (World.block_lt_of_cell? a p hc) hn)).trans hc
theorem Fr.rowIs (h : Fr S a b) {g : Nat} {t : TypeId} {n : Nat} {f : Nat → Value} (hr : a.rowIs g t n f) (hn : ¬ S g) : b.rowIs g t n f := by
  obtain ⟨cs, h1, h2, h3⟩ := hr
  exact ⟨cs, (h.block g (Array.getElem?_eq_some_iff.1 h1).1 hn).trans h1, h2, h3⟩
theorem Fr.slAt (h : Fr S a b) {v : Value} {n : Nat} {f : Nat → Value} (hr : SlAt a v n f) (hn : ∀ g, v.ownBlock = some g → ¬ S g) : SlAt b v n f := by
  obtain ⟨ao, cap, rfl, hc⟩ := hr
  refine ⟨ao, cap, rfl, fun h0 => ?_⟩
  obtain ⟨g, off, rfl, hcell⟩ := hc h0
  exact ⟨g, off, rfl, fun j hj => h.cell (hn g rfl) (hcell j hj)⟩
end

/-- v is a slice of len ints, in row b if there are any -/
def RowV (w : World) (v : Value) (len b : Nat) (f : Nat → Int) : Prop :=
  (len = 0 ∧ v = .slice none 0 0) ∨ ∃ C, len ≤ C ∧ C ≤ maxLen ∧ v = .slice (some ⟨b, 0, none⟩) len C ∧ w.rowIs b 3 C (fun j => .int .i64 (f j))
theorem RowV.fr {S : Nat → Prop} {w w' : World} {v : Value} {len b : Nat} {f : Nat → Int} (h : RowV w v len b f) (hf : Fr S w w') (hn : ¬ S b) : RowV w' v len b f := by
  rcases h with h | ⟨C, h1, h2, h3, h4⟩
  · exact .inl h
  · exact .inr ⟨C, h1, h2, h3, hf.rowIs h4 hn⟩
theorem RowV.slAt {w : World} {v : Value} {len b : Nat} {f : Nat → Int} (h : RowV w v len b f) : SlAt w v len (fun j => .int .i64 (f j)) := by
  rcases h with ⟨rfl, rfl⟩ | ⟨C, h1, _, rfl, h4⟩
  · exact SlAt.nil _ _
  · exact ⟨_, _, rfl, fun _ => ⟨b, 0, rfl, fun j hj => by rw [Nat.zero_add]; exact h4.cell (by omega)⟩⟩

theorem Try.info3 : (Try.prog.info? 3).map (fun i => (i.zero, i.size, i.bytes)) = some (some (.int .i64 0), 1, 8) := by kernel_rfl
theorem Try.info9 : (Try.prog.info? 9).map (fun i => (i.zero, i.size, i.bytes)) = some (some (.string ⟨#[]⟩), 1, 16) := by kernel_rfl
theorem Try.info22 : (Try.prog.info? 22).map (fun i => (i.zero, i.size, i.bytes)) = some (some (.slice none 0 0), 1, 24) := by kernel_rfl
theorem Try.info23 : (Try.prog.info? 23).map (fun i => (i.zero, i.size, i.bytes)) = some (some (.slice none 0 0), 1, 24) := by kernel_rfl

/-- v is a slice of m slices of strings; row r has L r of them; element j of row r is g r j. -/
def RowsS (w : World) (v : Value) (m : Nat) (L : Nat → Nat) (g : Nat → Nat → ByteArray) : Prop :=
  ∃ A C : Nat → _, SlAt w v m (fun r => .slice (A r) (L r) (C r)) ∧ ∀ r, r < m → SlAt w (.slice (A r) (L r) (C r)) (L r) (fun j => .string (g r j))
theorem RowsS.nil (w : World) (L : Nat → Nat) (g : Nat → Nat → ByteArray) : RowsS w (.slice none 0 0) 0 L g :=
  ⟨fun _ => none, fun _ => 0, SlAt.nil _ _, fun r h => absurd h (Nat.not_lt_zero r)⟩
theorem RowsS.below {w w' : World} {v : Value} {m : Nat} {L : Nat → Nat} {g : Nat → Nat → ByteArray} (h : RowsS w v m L g) (hb : Below w.heap.size w w') : RowsS w' v m L g := by
  obtain ⟨A, C, h1, h2⟩ := h
  exact ⟨A, C, h1.below hb, fun r hr => (h2 r hr).below hb⟩
end Go.Proofs.Qxb6600184a
