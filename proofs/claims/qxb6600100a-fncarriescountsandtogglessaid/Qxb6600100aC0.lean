import Derived.Test.Qxb6600100aRows
import Derived.WalkKit
import Derived.WalkSmall
import Derived.Deep.OwnRows
import Derived.Deep.DeepCutAuto
import Derived.Below
import Derived.Deep.Heap
namespace Go.Proofs.Qxb6600100a
set_option linter.unusedVariables false
set_option linter.unusedSimpArgs false
open Go.RowKit

def bit (o : Option Addr) (k : Nat) : Nat := if o.isSome then k else 0
def mask (o0 o1 o2 o3 : Option Addr) : Nat := bit o0 1 + bit o1 2 + bit o2 4 + bit o3 8

set_option maxHeartbeats 1000000 in
theorem carries18 (k key : ByteArray) (o0 o1 o2 o3 : Option Addr) (w : World) {R : Ending → World → Prop}
    (hR : R (.returned (.int .u8 (mask o0 o1 o2 o3 : Nat))) (w.alloc (.cells #[.string k, .string key, .pointer o0, .pointer o1, .pointer o2, .pointer o3] 32))) : Calls Try.prog 18 #[.agg #[.string k, .string key, .pointer o0, .pointer o1, .pointer o2, .pointer o3]] w R := by
  have HR : Hid _ := hR
  clear hR
  cases o0 <;> cases o1 <;> cases o2 <;> cases o3
  all_goals
    go_enter Try.func18, Try.ntmps18
    go_wp2
    exact HR.out

set_option maxHeartbeats 1000000 in
theorem zzcarries14 (k key : ByteArray) (o0 o1 o2 o3 : Option Addr) (w : World) {R : Ending → World → Prop}
    (hR : R (.returned (.int .u8 (mask o0 o1 o2 o3 : Nat))) ((w.alloc (.cells #[.string k, .string key, .pointer o0, .pointer o1, .pointer o2, .pointer o3] 32)).alloc (.cells #[.string k, .string key, .pointer o0, .pointer o1, .pointer o2, .pointer o3] 32))) :
    Calls Try.prog 14 #[.agg #[.string k, .string key, .pointer o0, .pointer o1, .pointer o2, .pointer o3]] w R := by
  have HR : Hid _ := hR
  clear hR
  go_enter Try.func14, Try.ntmps14
  go_wp2_with (fail)
  refine carries18 k key o0 o1 o2 o3 _ ?_
  go_wp2
  exact HR.out

theorem band1 : bits BinOp.and IntKind.u8 1 1 = 1 := by kernel_rfl
theorem band2 : bits BinOp.and IntKind.u8 2 1 = 0 := by kernel_rfl
theorem band3 : bits BinOp.and IntKind.u8 3 1 = 1 := by kernel_rfl
theorem band4 : bits BinOp.and IntKind.u8 4 1 = 0 := by kernel_rfl
theorem band5 : bits BinOp.and IntKind.u8 5 1 = 1 := by kernel_rfl
theorem band6 : bits BinOp.and IntKind.u8 6 1 = 0 := by kernel_rfl
theorem band7 : bits BinOp.and IntKind.u8 7 1 = 1 := by kernel_rfl
theorem band8 : bits BinOp.and IntKind.u8 8 1 = 0 := by kernel_rfl
theorem band9 : bits BinOp.and IntKind.u8 9 1 = 1 := by kernel_rfl
theorem band10 : bits BinOp.and IntKind.u8 10 1 = 0 := by kernel_rfl
theorem band11 : bits BinOp.and IntKind.u8 11 1 = 1 := by kernel_rfl
theorem band12 : bits BinOp.and IntKind.u8 12 1 = 0 := by kernel_rfl
theorem band13 : bits BinOp.and IntKind.u8 13 1 = 1 := by kernel_rfl
theorem band14 : bits BinOp.and IntKind.u8 14 1 = 0 := by kernel_rfl
theorem band15 : bits BinOp.and IntKind.u8 15 1 = 1 := by kernel_rfl
theorem wr1 : wrap64 1 = 1 := by kernel_rfl
theorem wr0 : wrap64 0 = 0 := by kernel_rfl
theorem wry1 (y : Nat) (h : y ≤ 4) : wrap64 ((y : Int) + 1) = ((y + 1 : Nat) : Int) := by unfold wrap64; omega
theorem wry0 (y : Nat) (h : y ≤ 4) : wrap64 ((y : Int) + 0) = (y : Int) := by unfold wrap64; omega

def pop4 (x : Nat) : Nat := x % 2 + x / 2 % 2 + x / 4 % 2 + x / 8 % 2

set_option maxHeartbeats 1000000 in
theorem pop16 (v : Nat) (hv : v < 16) (w : World) {R : Ending → World → Prop} (hR : R (.returned (.int .i64 (pop4 v : Nat))) w) : Calls Try.prog 16 #[.int .u8 (v : Nat)] w R := by
  have HR : Hid _ := hR
  clear hR
  go_enter Try.func16, Try.ntmps16
  go_wp2
  go_loop [0, 3] (fun a b => ∃ x y : Nat, x < 16 ∧ a = .int .u8 (x : Nat) ∧ b = .int .i64 (y : Nat) ∧ y + pop4 x = pop4 v) (fun a _ => (intOf a).toNat)
  case atStart => exact ⟨v, 0, hv, rfl, rfl, by omega⟩
  case round =>
    obtain ⟨x, y, hx, rfl, rfl, hxy⟩ := hrel
    have hv4 : pop4 v ≤ 4 := by unfold pop4; omega
    obtain rfl | rfl | rfl | rfl | rfl | rfl | rfl | rfl | rfl | rfl | rfl | rfl | rfl | rfl | rfl | rfl : x = 0 ∨ x = 1 ∨ x = 2 ∨ x = 3 ∨ x = 4 ∨ x = 5 ∨ x = 6 ∨ x = 7 ∨ x = 8 ∨ x = 9 ∨ x = 10 ∨ x = 11 ∨ x = 12 ∨ x = 13 ∨ x = 14 ∨ x = 15 := by omega
    · have hy : y = pop4 v := by have e : pop4 0 = 0 := rfl; omega
      subst hy
      go_wp2
      exact HR.out
    all_goals
      simp only [pop4, Nat.reduceMod, Nat.reduceDiv, Nat.reduceAdd] at hxy hv4
      have hyb : y ≤ 4 := by omega
      go_wp2
      go_round
      case rel =>
        simp only [wr1, wr0, band1, band2, band3, band4, band5, band6, band7, band8, band9, band10, band11, band12, band13, band14, band15]
        first
          | exact ⟨_, y, by decide, rfl, by rw [wry0 y hyb], by simp only [pop4, Nat.reduceMod, Nat.reduceDiv, Nat.reduceAdd]; omega⟩
          | exact ⟨_, y + 1, by decide, rfl, by rw [wry1 y hyb], by simp only [pop4, Nat.reduceMod, Nat.reduceDiv, Nat.reduceAdd]; omega⟩
      case measure => simp [intOf]
end Go.Proofs.Qxb6600100a
