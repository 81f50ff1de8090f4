import Derived.Test.Qxb6600100aC0
namespace Go.Proofs.Qxb6600100a
set_option linter.unusedVariables false
set_option linter.unusedSimpArgs false
open Go.RowKit

theorem bytes15 (o0 o1 o2 o3 : Option Addr) (w : World) (h0 : ∀ a, o0 = some a → ∃ s : ByteArray, s.size ≤ maxLen ∧ w.cell? a = some (.string s)) {R : Ending → World → Prop} (hR : ∀ b, R (.returned (.bool b)) w) :
    Calls Try.prog 15 #[.pointer o0, .pointer o1, .pointer o2, .pointer o3] w R := by
  have HR : Hid _ := hR
  clear hR
  cases o0 with
  | none =>
    go_enter Try.func15, Try.ntmps15
    go_wp2
    exact HR.out _
  | some a =>
    obtain ⟨s, hs, hc⟩ := h0 a rfl
    unfold maxLen at hs
    clear h0
    go_enter Try.func15, Try.ntmps15
    go_wp2
    all_goals (exact HR.out _)

def maskB (b0 b1 b2 b3 : Bool) : Nat := (if b0 = true then 1 else 0) + (if b1 = true then 2 else 0) + (if b2 = true then 4 else 0) + (if b3 = true then 8 else 0)
def cntB (b : Bool) : Nat := if b = true then 1 else 0
def cnt (o : Option Addr) : Nat := cntB o.isSome
theorem mask_eq (p0 p1 p2 p3 : Option Addr) : mask p0 p1 p2 p3 = maskB p0.isSome p1.isSome p2.isSome p3.isSome := rfl
theorem maskltB (b0 b1 b2 b3 : Bool) : maskB b0 b1 b2 b3 < 16 := by cases b0 <;> cases b1 <;> cases b2 <;> cases b3 <;> decide
theorem popmaskB (b0 b1 b2 b3 : Bool) : pop4 (maskB b0 b1 b2 b3) = cntB b0 + cntB b1 + cntB b2 + cntB b3 := by cases b0 <;> cases b1 <;> cases b2 <;> cases b3 <;> kernel_rfl
theorem masklt (p0 p1 p2 p3 : Option Addr) : mask p0 p1 p2 p3 < 16 := maskltB _ _ _ _
theorem popmask (p0 p1 p2 p3 : Option Addr) : pop4 (mask p0 p1 p2 p3) = cnt p0 + cnt p1 + cnt p2 + cnt p3 := popmaskB _ _ _ _
theorem mnotB (b0 b1 b2 b3 : Bool) : bits BinOp.andNot IntKind.u8 (maskB b0 b1 b2 b3 : Nat) 15 = 0 := by cases b0 <;> cases b1 <;> cases b2 <;> cases b3 <;> kernel_rfl
theorem mnot (p0 p1 p2 p3 : Option Addr) : bits BinOp.andNot IntKind.u8 (mask p0 p1 p2 p3 : Nat) 15 = 0 := mnotB _ _ _ _
theorem mor0B (b0 b1 b2 b3 : Bool) : bits BinOp.or IntKind.u8 (maskB b0 b1 b2 b3 : Nat) 1 = (maskB true b1 b2 b3 : Nat) := by cases b0 <;> cases b1 <;> cases b2 <;> cases b3 <;> kernel_rfl
theorem man0B (b0 b1 b2 b3 : Bool) : bits BinOp.andNot IntKind.u8 (maskB b0 b1 b2 b3 : Nat) 1 = (maskB false b1 b2 b3 : Nat) := by cases b0 <;> cases b1 <;> cases b2 <;> cases b3 <;> kernel_rfl
theorem mor0 (a : Addr) (p0 p1 p2 p3 : Option Addr) : bits BinOp.or IntKind.u8 (mask p0 p1 p2 p3 : Nat) 1 = (mask (some a) p1 p2 p3 : Nat) := mor0B _ _ _ _
theorem man0 (p0 p1 p2 p3 : Option Addr) : bits BinOp.andNot IntKind.u8 (mask p0 p1 p2 p3 : Nat) 1 = (mask none p1 p2 p3 : Nat) := man0B _ _ _ _
theorem mor1B (b0 b1 b2 b3 : Bool) : bits BinOp.or IntKind.u8 (maskB b0 b1 b2 b3 : Nat) 2 = (maskB b0 true b2 b3 : Nat) := by cases b0 <;> cases b1 <;> cases b2 <;> cases b3 <;> kernel_rfl
theorem man1B (b0 b1 b2 b3 : Bool) : bits BinOp.andNot IntKind.u8 (maskB b0 b1 b2 b3 : Nat) 2 = (maskB b0 false b2 b3 : Nat) := by cases b0 <;> cases b1 <;> cases b2 <;> cases b3 <;> kernel_rfl
theorem mor1 (a : Addr) (p0 p1 p2 p3 : Option Addr) : bits BinOp.or IntKind.u8 (mask p0 p1 p2 p3 : Nat) 2 = (mask p0 (some a) p2 p3 : Nat) := mor1B _ _ _ _
theorem man1 (p0 p1 p2 p3 : Option Addr) : bits BinOp.andNot IntKind.u8 (mask p0 p1 p2 p3 : Nat) 2 = (mask p0 none p2 p3 : Nat) := man1B _ _ _ _
theorem mor2B (b0 b1 b2 b3 : Bool) : bits BinOp.or IntKind.u8 (maskB b0 b1 b2 b3 : Nat) 4 = (maskB b0 b1 true b3 : Nat) := by cases b0 <;> cases b1 <;> cases b2 <;> cases b3 <;> kernel_rfl
theorem man2B (b0 b1 b2 b3 : Bool) : bits BinOp.andNot IntKind.u8 (maskB b0 b1 b2 b3 : Nat) 4 = (maskB b0 b1 false b3 : Nat) := by cases b0 <;> cases b1 <;> cases b2 <;> cases b3 <;> kernel_rfl
theorem mor2 (a : Addr) (p0 p1 p2 p3 : Option Addr) : bits BinOp.or IntKind.u8 (mask p0 p1 p2 p3 : Nat) 4 = (mask p0 p1 (some a) p3 : Nat) := mor2B _ _ _ _
theorem man2 (p0 p1 p2 p3 : Option Addr) : bits BinOp.andNot IntKind.u8 (mask p0 p1 p2 p3 : Nat) 4 = (mask p0 p1 none p3 : Nat) := man2B _ _ _ _
theorem mor3B (b0 b1 b2 b3 : Bool) : bits BinOp.or IntKind.u8 (maskB b0 b1 b2 b3 : Nat) 8 = (maskB b0 b1 b2 true : Nat) := by cases b0 <;> cases b1 <;> cases b2 <;> cases b3 <;> kernel_rfl
theorem man3B (b0 b1 b2 b3 : Bool) : bits BinOp.andNot IntKind.u8 (maskB b0 b1 b2 b3 : Nat) 8 = (maskB b0 b1 b2 false : Nat) := by cases b0 <;> cases b1 <;> cases b2 <;> cases b3 <;> kernel_rfl
theorem mor3 (a : Addr) (p0 p1 p2 p3 : Option Addr) : bits BinOp.or IntKind.u8 (mask p0 p1 p2 p3 : Nat) 8 = (mask p0 p1 p2 (some a) : Nat) := mor3B _ _ _ _
theorem man3 (p0 p1 p2 p3 : Option Addr) : bits BinOp.andNot IntKind.u8 (mask p0 p1 p2 p3 : Nat) 8 = (mask p0 p1 p2 none : Nat) := man3B _ _ _ _

def fobj (p0 p1 p2 p3 : Option Addr) : Obj := .cells #[.string ⟨#[112, 117, 116]⟩, .string ⟨#[107]⟩, .pointer p0, .pointer p1, .pointer p2, .pointer p3] 32
theorem fcells {w : World} {b : Nat} {p0 p1 p2 p3 : Option Addr} (h : w.heap[b]? = some (fobj p0 p1 p2 p3)) : w.cell? ⟨b, 0, none⟩ = some (.string ⟨#[112, 117, 116]⟩) ∧ w.cell? ⟨b, 1, none⟩ = some (.string ⟨#[107]⟩) ∧ w.cell? ⟨b, 2, none⟩ = some (.pointer p0) ∧ w.cell? ⟨b, 3, none⟩ = some (.pointer p1) ∧ w.cell? ⟨b, 4, none⟩ = some (.pointer p2) ∧ w.cell? ⟨b, 5, none⟩ = some (.pointer p3) := by
  refine ⟨?_, ?_, ?_, ?_, ?_, ?_⟩ <;> (rw [cell_of_row w b _ _ _ _ h]; rfl)
theorem blt {w : World} {b : Nat} {o : Obj} (h : w.heap[b]? = some o) : b < w.heap.size := (Array.getElem?_eq_some_iff.1 h).1
theorem balloc {w : World} {b : Nat} {o : Obj} (h : w.heap[b]? = some o) (o' : Obj) : (w.alloc o').heap[b]? = some o := (Go.Deep.blk_alloc_lt _ _ _ (blt h)).trans h
theorem belA {w w' : World} (h : Below w.heap.size w w') (o : Obj) : Below w.heap.size w (w'.alloc o) := h.alloc h.size o

theorem cb {w w' : World} {a : Addr} {v : Value} (h : Below w.heap.size w w') (hc : w.cell? a = some v) : w'.cell? a = some v := (h.cell (World.block_lt_of_cell? w a hc)).trans hc
theorem bstep {w w' : World} (h : Below w.heap.size w w') (hs : w.heap.size ≤ w'.heap.size) (c : Array Value) (t : TypeId) (f : Nat × Nat) : Below w.heap.size w (w'.alloc (.cells c t f)) := h.alloc hs _


/-- the block of f holds p0 .. p3, that of g q0 .. q3 -/
structure T2 (w wd : World) (bf bg : Nat) (p0 p1 p2 p3 q0 q1 q2 q3 : Option Addr) : Prop where
  f : wd.heap[bf]? = some (fobj p0 p1 p2 p3)
  g : wd.heap[bg]? = some (fobj q0 q1 q2 q3)
  b : Below w.heap.size w wd
section
variable {w wd : World} {bf bg : Nat} {p0 p1 p2 p3 q0 q1 q2 q3 : Option Addr}
theorem T2.alloc (h : T2 w wd bf bg p0 p1 p2 p3 q0 q1 q2 q3) (o : Obj) : T2 w (wd.alloc o) bf bg p0 p1 p2 p3 q0 q1 q2 q3 := ⟨balloc h.f o, balloc h.g o, belA h.b o⟩
theorem T2.set2 (h : T2 w wd bf bg p0 p1 p2 p3 q0 q1 q2 q3) (hne : bf ≠ bg) (hs : w.heap.size ≤ bg) (q : Option Addr) : T2 w (wd.setCell ⟨bg, 2, none⟩ (.pointer q)) bf bg p0 p1 p2 p3 q q1 q2 q3 :=
  ⟨(heap_setCell_other _ _ _ _ hne).trans h.f, heap_setCell_same _ _ _ _ _ _ h.g, h.b.setCell hs _⟩
theorem T2.set3 (h : T2 w wd bf bg p0 p1 p2 p3 q0 q1 q2 q3) (hne : bf ≠ bg) (hs : w.heap.size ≤ bg) (q : Option Addr) : T2 w (wd.setCell ⟨bg, 3, none⟩ (.pointer q)) bf bg p0 p1 p2 p3 q0 q q2 q3 :=
  ⟨(heap_setCell_other _ _ _ _ hne).trans h.f, heap_setCell_same _ _ _ _ _ _ h.g, h.b.setCell hs _⟩
theorem T2.set4 (h : T2 w wd bf bg p0 p1 p2 p3 q0 q1 q2 q3) (hne : bf ≠ bg) (hs : w.heap.size ≤ bg) (q : Option Addr) : T2 w (wd.setCell ⟨bg, 4, none⟩ (.pointer q)) bf bg p0 p1 p2 p3 q0 q1 q q3 :=
  ⟨(heap_setCell_other _ _ _ _ hne).trans h.f, heap_setCell_same _ _ _ _ _ _ h.g, h.b.setCell hs _⟩
theorem T2.set5 (h : T2 w wd bf bg p0 p1 p2 p3 q0 q1 q2 q3) (hne : bf ≠ bg) (hs : w.heap.size ≤ bg) (q : Option Addr) : T2 w (wd.setCell ⟨bg, 5, none⟩ (.pointer q)) bf bg p0 p1 p2 p3 q0 q1 q2 q :=
  ⟨(heap_setCell_other _ _ _ _ hne).trans h.f, heap_setCell_same _ _ _ _ _ _ h.g, h.b.setCell hs _⟩
theorem T2.set0 (h : T2 w wd bf bg p0 p1 p2 p3 q0 q1 q2 q3) (hne : bf ≠ bg) (hs : w.heap.size ≤ bg) : T2 w (wd.setCell ⟨bg, 0, none⟩ (.string ⟨#[112, 117, 116]⟩)) bf bg p0 p1 p2 p3 q0 q1 q2 q3 :=
  ⟨(heap_setCell_other _ _ _ _ hne).trans h.f, heap_setCell_same _ _ _ _ _ _ h.g, h.b.setCell hs _⟩
theorem T2.set1 (h : T2 w wd bf bg p0 p1 p2 p3 q0 q1 q2 q3) (hne : bf ≠ bg) (hs : w.heap.size ≤ bg) : T2 w (wd.setCell ⟨bg, 1, none⟩ (.string ⟨#[107]⟩)) bf bg p0 p1 p2 p3 q0 q1 q2 q3 :=
  ⟨(heap_setCell_other _ _ _ _ hne).trans h.f, heap_setCell_same _ _ _ _ _ _ h.g, h.b.setCell hs _⟩
theorem T2.all (h : T2 w wd bf bg p0 p1 p2 p3 q0 q1 q2 q3) (hne : bf ≠ bg) (hs : w.heap.size ≤ bg) :
    T2 w ((((((wd.setCell ⟨bg, 0, none⟩ (.string ⟨#[112, 117, 116]⟩)).setCell ⟨bg, 1, none⟩ (.string ⟨#[107]⟩)).setCell ⟨bg, 2, none⟩ (.pointer p0)).setCell ⟨bg, 3, none⟩ (.pointer p1)).setCell ⟨bg, 4, none⟩ (.pointer p2)).setCell ⟨bg, 5, none⟩ (.pointer p3)) bf bg p0 p1 p2 p3 p0 p1 p2 p3 :=
  (((((h.set0 hne hs).set1 hne hs).set2 hne hs p0).set3 hne hs p1).set4 hne hs p2).set5 hne hs p3
theorem T2.fr (h : T2 w wd bf bg p0 p1 p2 p3 q0 q1 q2 q3) (k : Nat) : wd.frozen? ⟨bg, k, none⟩ = false := frozen_of_row _ _ _ _ _ h.g
end
end Go.Proofs.Qxb6600100a
