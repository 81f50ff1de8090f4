import Derived.Test.Qxb6600118aRows
import Derived.WalkKit
import Derived.ProofKit
import Derived.OpenShut
import Derived.ShutString
namespace Go.Proofs.Qxb6600118a
set_option linter.unusedVariables false
set_option linter.unusedSimpArgs false
open Go.RowKit

def isHost (s : ByteArray) : Bool := s.toList == [104, 111, 115, 116]
def isWild (s : ByteArray) : Bool := s.toList == [119, 105, 108, 100, 99, 97, 114, 100]
def rSame : ByteArray := ⟨#[115, 97, 109, 101, 45, 110, 97, 109, 101]⟩
def rHostOnly : ByteArray := ⟨#[104, 111, 115, 116, 45, 111, 110, 108, 121]⟩
def rWildOf : ByteArray := ⟨#[119, 105, 108, 100, 99, 97, 114, 100, 45, 111, 102, 45, 110, 97, 109, 101]⟩
def rItself : ByteArray := ⟨#[110, 97, 109, 101, 45, 105, 116, 115, 101, 108, 102]⟩
def rOne : ByteArray := ⟨#[111, 110, 101, 45, 108, 97, 98, 101, 108, 45, 98, 101, 108, 111, 119]⟩
def rDeep : ByteArray := ⟨#[116, 111, 111, 45, 100, 101, 101, 112]⟩
def rBelow : ByteArray := ⟨#[98, 101, 108, 111, 119]⟩

/-- reach, with no Go in sight: at the host scope, the wildcard scope, any other -/
def rHost (d : Int) (b : Bool) : Bool × ByteArray := if d = 0 then (if b = true then (false, rHostOnly) else (true, rSame)) else (false, rHostOnly)
def rWild (d : Int) (b : Bool) : Bool × ByteArray :=
  if d = 0 then (if b = true then (true, rWildOf) else (false, rItself)) else if d = 1 then (if b = true then (false, rDeep) else (true, rOne)) else (false, rDeep)
def rElse (d : Int) (b : Bool) : Bool × ByteArray := if 0 < d then (true, rBelow) else if b = true then (true, rWildOf) else (true, rSame)
def rch (s : ByteArray) (d : Int) (b : Bool) : Bool × ByteArray := if isHost s = true then rHost d b else if isWild s = true then rWild d b else rElse d b

set_option maxHeartbeats 1000000 in
theorem reach10 (s : ByteArray) (d : Int) (b : Bool) (w : World) {R : Ending → World → Prop}
    (hR : R (.returned (.tuple #[.bool (rch s d b).1, .string (rch s d b).2])) w) : Calls Try.prog 10 #[.string s, .int .i64 d, .bool b] w R := by
  have HR : Hid _ := hR
  clear hR
  unfold rch at HR
  by_cases h1 : isHost s = true
  · rw [if_pos h1] at HR
    unfold isHost at h1
    unfold rHost at HR
    by_cases hd : d = 0
    · rw [if_pos hd] at HR
      subst hd
      cases b
      · go_enter Try.func10, Try.ntmps10
        go_wp2
        exact HR.out
      · go_enter Try.func10, Try.ntmps10
        go_wp2
        exact HR.out
    · rw [if_neg hd] at HR
      go_enter Try.func10, Try.ntmps10
      go_wp2
      exact HR.out
  · rw [if_neg h1] at HR
    unfold isHost at h1
    rw [Bool.not_eq_true] at h1
    by_cases h2 : isWild s = true
    · rw [if_pos h2] at HR
      unfold isWild at h2
      unfold rWild at HR
      by_cases hd : d = 0
      · rw [if_pos hd] at HR
        subst hd
        cases b
        · go_enter Try.func10, Try.ntmps10
          go_wp2
          exact HR.out
        · go_enter Try.func10, Try.ntmps10
          go_wp2
          exact HR.out
      · rw [if_neg hd] at HR
        by_cases hd1 : d = 1
        · rw [if_pos hd1] at HR
          subst hd1
          cases b
          · go_enter Try.func10, Try.ntmps10
            go_wp2
            exact HR.out
          · go_enter Try.func10, Try.ntmps10
            go_wp2
            exact HR.out
        · rw [if_neg hd1] at HR
          go_enter Try.func10, Try.ntmps10
          go_wp2
          exact HR.out
    · rw [if_neg h2] at HR
      unfold isWild at h2
      rw [Bool.not_eq_true] at h2
      unfold rElse at HR
      by_cases hd : 0 < d
      · rw [if_pos hd] at HR
        go_enter Try.func10, Try.ntmps10
        go_wp2
        exact HR.out
      · rw [if_neg hd] at HR
        cases b
        · go_enter Try.func10, Try.ntmps10
          go_wp2
          exact HR.out
        · go_enter Try.func10, Try.ntmps10
          go_wp2
          exact HR.out

set_option maxHeartbeats 1000000 in
theorem zzreach7 (s : ByteArray) (d : Int) (b : Bool) (w : World) {R : Ending → World → Prop}
    (hR : R (.returned (.tuple #[.bool (rch s d b).1, .string (rch s d b).2])) w) : Calls Try.prog 7 #[.string s, .int .i64 d, .bool b] w R := by
  have HR : Hid _ := hR
  clear hR
  go_enter Try.func7, Try.ntmps7
  go_wp2_with (fail)
  refine reach10 s d b w ?_
  go_wp2
  exact HR.out

theorem bytes8 (s : ByteArray) (d : Int) (b : Bool) (hs : s.size ≤ maxLen) (w : World) {R : Ending → World → Prop} (hR : ∀ x, R (.returned (.bool x)) w) : Calls Try.prog 8 #[.string s, .int .i64 d, .bool b] w R := by
  have HR : Hid _ := hR
  clear hR
  unfold maxLen at hs
  go_enter Try.func8, Try.ntmps8
  go_wp2
  all_goals (exact HR.out _)
theorem bytes9 (s : ByteArray) (d : Int) (b : Bool) (hs : s.size ≤ maxLen) (w : World) {R : Ending → World → Prop} (hR : ∀ x, R (.returned (.bool x)) w) : Calls Try.prog 9 #[.string s, .int .i64 d, .bool b] w R := by
  have HR : Hid _ := hR
  clear hR
  unfold maxLen at hs
  go_enter Try.func9, Try.ntmps9
  go_wp2
  all_goals (exact HR.out _)
theorem rch_host (d : Int) (b : Bool) : rch ⟨#[104, 111, 115, 116]⟩ d b = rHost d b := by
  unfold rch
  rw [if_pos (by decide +kernel)]
theorem rch_wild (d : Int) (b : Bool) : rch ⟨#[119, 105, 108, 100, 99, 97, 114, 100]⟩ d b = rWild d b := by
  unfold rch
  rw [if_neg (by decide +kernel), if_pos (by decide +kernel)]
theorem rch_cases (s : ByteArray) (d : Int) (b : Bool) : (rch s d b = (true, rSame) ∧ b = false ∧ d ≤ 0) ∨ (rch s d b = (true, rWildOf) ∧ b = true ∧ d ≤ 0) ∨ (rch s d b = (true, rOne) ∧ b = false ∧ d = 1) ∨ (rch s d b = (true, rBelow) ∧ 0 < d) ∨
    rch s d b = (false, rHostOnly) ∨ rch s d b = (false, rItself) ∨ rch s d b = (false, rDeep) := by
  unfold rch rHost rWild rElse
  by_cases h1 : isHost s = true
  · by_cases c1 : d = 0 <;> cases b <;> simp [h1, c1]
  · by_cases h2 : isWild s = true
    · by_cases c1 : d = 0
      · cases b <;> simp [h1, h2, c1]
      · by_cases c2 : d = 1 <;> cases b <;> simp [h1, h2, c1, c2]
    · by_cases c1 : 0 < d
      · simp [h1, h2, c1]
      · have c2 : d ≤ 0 := by omega
        cases b <;> simp [h1, h2, c1, c2]
end Go.Proofs.Qxb6600118a
