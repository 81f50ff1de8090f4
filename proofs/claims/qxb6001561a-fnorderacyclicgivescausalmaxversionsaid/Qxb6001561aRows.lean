/-
  No cell of these rows narrows 'for every input' (looked for: loops, veiled, ifaces, maps, wideKeys, modest, calm, conditions, laid).
  DERIVED. THE GIVEN ROWS OF THIS SEAT. 3 by the template 'for every input the law returns true; each argument reads behind the call as it read before'; 0 by the template 'total and deterministic' (their statements: Qxb6001561aTotals.lean).
  GIVEN WITH THE SEED: the statements are not yours to turn. If you find one false, say at which input.
  Laid BY PROGRAM, IN A SANDBOX (cutbox-rows.mjs): the forced cells as the released guide's own fill.sh prints them over the translation bc49a148456dbf2b… (all of the seat's roots in one cut). By AI agents, Wed Nov 11 2026. No macro, syntax, notation, axiom, sorry.
-/
import Derived.Test.Qxb6001561aChecked
import GoSem.Claim
import GoSem.ClaimJoined
import GoSem.ClaimMapViews
import Derived.JoinedTies
import Derived.KernelRfl
namespace Go.Proofs.Qxb6001561a
/- THE CELL 'sum', in the pinned program and in every row, IS THE sha256 OF THE DUMP (.gsa) THAT Qxb6001561aProg.lean LOADS. Nothing in Lean hashes anything: it is a label: what it is worth is what the hold of that sum in a sandbox is worth. -/
noncomputable def Try.pinned : Pinned := { name := "qxb6001561a", sum := "bc49a148456dbf2b00919f242ad4d35fdb9b8351d38c0287df91e114d24f5775", checked := Try.checked }
namespace Rows
def none {H : Type} : Left H := { results := [], args := [] }

/-- 'zzlaws_internal_history_b1.FnOrderTakesEachOperationOnceInSessionOrder': WHATEVER THE INPUT: true; the input reads as it did. -/
def fnOrderTakesEachOperationOnceInSessionOrderSpec : ChangeSpec := { name := "fnOrderTakesEachOperationOnceInSessionOrder", fn := fun _ => fun
  | [d1, d2, d3, d4] => { results := [.lit (.bool true)], args := [d1, d2, d3, d4] }
  | _ => none }
def fnOrderTakesEachOperationOnceInSessionOrderRow : OpenClaim := { program := "qxb6001561a", sum := "bc49a148456dbf2b00919f242ad4d35fdb9b8351d38c0287df91e114d24f5775", func := "example.com/tradewind/tradewind/zzlaws_internal_history_b1.FnOrderTakesEachOperationOnceInSessionOrder", spec := "fnOrderTakesEachOperationOnceInSessionOrder", apart := false }
def FnOrderTakesEachOperationOnceInSessionOrderSaid : Prop := fnOrderTakesEachOperationOnceInSessionOrderRow.holds Try.pinned (OpenSpec.ofChange fnOrderTakesEachOperationOnceInSessionOrderSpec)

/-- ITS FALSE NEIGHBOUR: 'it returns false'. Refute it at one input. -/
def fnOrderTakesEachOperationOnceInSessionOrderWrong : ChangeSpec := { name := "fnOrderTakesEachOperationOnceInSessionOrder", fn := fun _ => fun
  | [d1, d2, d3, d4] => { results := [.lit (.bool false)], args := [d1, d2, d3, d4] }
  | _ => none }
def FnOrderTakesEachOperationOnceInSessionOrderWrongFalsely : Prop := fnOrderTakesEachOperationOnceInSessionOrderRow.holds Try.pinned (OpenSpec.ofChange fnOrderTakesEachOperationOnceInSessionOrderWrong)

/-- 'zzlaws_internal_history_b1.FnOrderAcyclicGivesCausalMaxVersion': WHATEVER THE INPUT: true; the input reads as it did. -/
def fnOrderAcyclicGivesCausalMaxVersionSpec : ChangeSpec := { name := "fnOrderAcyclicGivesCausalMaxVersion", fn := fun _ => fun
  | [d1, d2, d3, d4] => { results := [.lit (.bool true)], args := [d1, d2, d3, d4] }
  | _ => none }
def fnOrderAcyclicGivesCausalMaxVersionRow : OpenClaim := { program := "qxb6001561a", sum := "bc49a148456dbf2b00919f242ad4d35fdb9b8351d38c0287df91e114d24f5775", func := "example.com/tradewind/tradewind/zzlaws_internal_history_b1.FnOrderAcyclicGivesCausalMaxVersion", spec := "fnOrderAcyclicGivesCausalMaxVersion", apart := false }
def FnOrderAcyclicGivesCausalMaxVersionSaid : Prop := fnOrderAcyclicGivesCausalMaxVersionRow.holds Try.pinned (OpenSpec.ofChange fnOrderAcyclicGivesCausalMaxVersionSpec)

/-- ITS FALSE NEIGHBOUR: 'it returns false'. Refute it at one input. -/
def fnOrderAcyclicGivesCausalMaxVersionWrong : ChangeSpec := { name := "fnOrderAcyclicGivesCausalMaxVersion", fn := fun _ => fun
  | [d1, d2, d3, d4] => { results := [.lit (.bool false)], args := [d1, d2, d3, d4] }
  | _ => none }
def FnOrderAcyclicGivesCausalMaxVersionWrongFalsely : Prop := fnOrderAcyclicGivesCausalMaxVersionRow.holds Try.pinned (OpenSpec.ofChange fnOrderAcyclicGivesCausalMaxVersionWrong)

/-- 'zzlaws_internal_history_b1.FnOrderWithoutSourcesRunsSessionsInTurn': WHATEVER THE INPUT: true; the input reads as it did. -/
def fnOrderWithoutSourcesRunsSessionsInTurnSpec : ChangeSpec := { name := "fnOrderWithoutSourcesRunsSessionsInTurn", fn := fun _ => fun
  | [d1, d2, d3] => { results := [.lit (.bool true)], args := [d1, d2, d3] }
  | _ => none }
def fnOrderWithoutSourcesRunsSessionsInTurnRow : OpenClaim := { program := "qxb6001561a", sum := "bc49a148456dbf2b00919f242ad4d35fdb9b8351d38c0287df91e114d24f5775", func := "example.com/tradewind/tradewind/zzlaws_internal_history_b1.FnOrderWithoutSourcesRunsSessionsInTurn", spec := "fnOrderWithoutSourcesRunsSessionsInTurn", apart := false }
def FnOrderWithoutSourcesRunsSessionsInTurnSaid : Prop := fnOrderWithoutSourcesRunsSessionsInTurnRow.holds Try.pinned (OpenSpec.ofChange fnOrderWithoutSourcesRunsSessionsInTurnSpec)

/-- ITS FALSE NEIGHBOUR: 'it returns false'. Refute it at one input. -/
def fnOrderWithoutSourcesRunsSessionsInTurnWrong : ChangeSpec := { name := "fnOrderWithoutSourcesRunsSessionsInTurn", fn := fun _ => fun
  | [d1, d2, d3] => { results := [.lit (.bool false)], args := [d1, d2, d3] }
  | _ => none }
def FnOrderWithoutSourcesRunsSessionsInTurnWrongFalsely : Prop := fnOrderWithoutSourcesRunsSessionsInTurnRow.holds Try.pinned (OpenSpec.ofChange fnOrderWithoutSourcesRunsSessionsInTurnWrong)

end Rows
end Go.Proofs.Qxb6001561a
