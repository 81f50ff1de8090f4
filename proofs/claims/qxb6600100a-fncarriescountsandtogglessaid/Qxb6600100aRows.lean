/-
  No cell of these rows narrows 'for every input' (looked for: loops, veiled, ifaces, maps, wideKeys, modest, calm, conditions, laid).
  DERIVED. THE GIVEN ROWS OF THIS SEAT. 5 by the template 'for every input the law returns true; each argument reads behind the call as it read before'; 0 by the template 'total and deterministic' (their statements: Qxb6600100aTotals.lean).
  GIVEN WITH THE SEED: the statements are not yours to turn. If you find one false, say at which input.
  Laid BY PROGRAM, IN A SANDBOX (cutbox-rows.mjs): the forced cells as the released guide's own fill.sh prints them over the translation b4c7ca0ff3f0c47a… (all of the seat's roots in one cut). By AI agents, Wed Nov 11 2026. No macro, syntax, notation, axiom, sorry.
-/
import Derived.Test.Qxb6600100aChecked
import GoSem.Claim
import GoSem.ClaimJoined
import GoSem.ClaimMapViews
import Derived.JoinedTies
import Derived.KernelRfl
namespace Go.Proofs.Qxb6600100a
/- THE CELL 'sum', in the pinned program and in every row, IS THE sha256 OF THE DUMP (.gsa) THAT Qxb6600100aProg.lean LOADS. Nothing in Lean hashes anything: it is a label: what it is worth is what the hold of that sum in a sandbox is worth. -/
noncomputable def Try.pinned : Pinned := { name := "qxb6600100a", sum := "b4c7ca0ff3f0c47aa688135d039deeca5749124847c87fa5ef20874969a198d9", checked := Try.checked }
namespace Rows
def none {H : Type} : Left H := { results := [], args := [] }

/-- 'zzlaws_internal_txn_b1.FnCoordinatorInvertsJoin': WHATEVER THE INPUT: true; the input reads as it did. -/
def fnCoordinatorInvertsJoinSpec : ChangeSpec := { name := "fnCoordinatorInvertsJoin", fn := fun _ => fun
  | [d1, d2] => { results := [.lit (.bool true)], args := [d1, d2] }
  | _ => none }
def fnCoordinatorInvertsJoinRow : OpenClaim := { program := "qxb6600100a", sum := "b4c7ca0ff3f0c47aa688135d039deeca5749124847c87fa5ef20874969a198d9", func := "example.com/concordat/concordat/zzlaws_internal_txn_b1.FnCoordinatorInvertsJoin", spec := "fnCoordinatorInvertsJoin", apart := false }
def FnCoordinatorInvertsJoinSaid : Prop := fnCoordinatorInvertsJoinRow.holds Try.pinned (OpenSpec.ofChange fnCoordinatorInvertsJoinSpec)

/-- ITS FALSE NEIGHBOUR: 'it returns false'. Refute it at one input. -/
def fnCoordinatorInvertsJoinWrong : ChangeSpec := { name := "fnCoordinatorInvertsJoin", fn := fun _ => fun
  | [d1, d2] => { results := [.lit (.bool false)], args := [d1, d2] }
  | _ => none }
def FnCoordinatorInvertsJoinWrongFalsely : Prop := fnCoordinatorInvertsJoinRow.holds Try.pinned (OpenSpec.ofChange fnCoordinatorInvertsJoinWrong)

/-- 'zzlaws_internal_txn_b1.FnCoordinatorSplitsAtLastDash': WHATEVER THE INPUT: true; the input reads as it did. -/
def fnCoordinatorSplitsAtLastDashSpec : ChangeSpec := { name := "fnCoordinatorSplitsAtLastDash", fn := fun _ => fun
  | [d] => { results := [.lit (.bool true)], args := [d] }
  | _ => none }
def fnCoordinatorSplitsAtLastDashRow : OpenClaim := { program := "qxb6600100a", sum := "b4c7ca0ff3f0c47aa688135d039deeca5749124847c87fa5ef20874969a198d9", func := "example.com/concordat/concordat/zzlaws_internal_txn_b1.FnCoordinatorSplitsAtLastDash", spec := "fnCoordinatorSplitsAtLastDash", apart := false }
def FnCoordinatorSplitsAtLastDashSaid : Prop := fnCoordinatorSplitsAtLastDashRow.holds Try.pinned (OpenSpec.ofChange fnCoordinatorSplitsAtLastDashSpec)

/-- ITS FALSE NEIGHBOUR: 'it returns false'. Refute it at one input. -/
def fnCoordinatorSplitsAtLastDashWrong : ChangeSpec := { name := "fnCoordinatorSplitsAtLastDash", fn := fun _ => fun
  | [d] => { results := [.lit (.bool false)], args := [d] }
  | _ => none }
def FnCoordinatorSplitsAtLastDashWrongFalsely : Prop := fnCoordinatorSplitsAtLastDashRow.holds Try.pinned (OpenSpec.ofChange fnCoordinatorSplitsAtLastDashWrong)

/-- 'zzlaws_internal_txn_b1.FnCoordinatorIgnoresDashFreeSuffix': WHATEVER THE INPUT: true; the input reads as it did. -/
def fnCoordinatorIgnoresDashFreeSuffixSpec : ChangeSpec := { name := "fnCoordinatorIgnoresDashFreeSuffix", fn := fun _ => fun
  | [d1, d2] => { results := [.lit (.bool true)], args := [d1, d2] }
  | _ => none }
def fnCoordinatorIgnoresDashFreeSuffixRow : OpenClaim := { program := "qxb6600100a", sum := "b4c7ca0ff3f0c47aa688135d039deeca5749124847c87fa5ef20874969a198d9", func := "example.com/concordat/concordat/zzlaws_internal_txn_b1.FnCoordinatorIgnoresDashFreeSuffix", spec := "fnCoordinatorIgnoresDashFreeSuffix", apart := false }
def FnCoordinatorIgnoresDashFreeSuffixSaid : Prop := fnCoordinatorIgnoresDashFreeSuffixRow.holds Try.pinned (OpenSpec.ofChange fnCoordinatorIgnoresDashFreeSuffixSpec)

/-- ITS FALSE NEIGHBOUR: 'it returns false'. Refute it at one input. -/
def fnCoordinatorIgnoresDashFreeSuffixWrong : ChangeSpec := { name := "fnCoordinatorIgnoresDashFreeSuffix", fn := fun _ => fun
  | [d1, d2] => { results := [.lit (.bool false)], args := [d1, d2] }
  | _ => none }
def FnCoordinatorIgnoresDashFreeSuffixWrongFalsely : Prop := fnCoordinatorIgnoresDashFreeSuffixRow.holds Try.pinned (OpenSpec.ofChange fnCoordinatorIgnoresDashFreeSuffixWrong)

/-- 'zzlaws_internal_txn_b1.FnCarriesSeesOnlyPresence': WHATEVER THE INPUT: true; the input reads as it did. -/
def fnCarriesSeesOnlyPresenceSpec : ChangeSpec := { name := "fnCarriesSeesOnlyPresence", fn := fun _ => fun
  | [d1, d2, d3, d4, d5, d6] => { results := [.lit (.bool true)], args := [d1, d2, d3, d4, d5, d6] }
  | _ => none }
def fnCarriesSeesOnlyPresenceRow : OpenClaim := { program := "qxb6600100a", sum := "b4c7ca0ff3f0c47aa688135d039deeca5749124847c87fa5ef20874969a198d9", func := "example.com/concordat/concordat/zzlaws_internal_txn_b1.FnCarriesSeesOnlyPresence", spec := "fnCarriesSeesOnlyPresence", apart := false }
def FnCarriesSeesOnlyPresenceSaid : Prop := fnCarriesSeesOnlyPresenceRow.holds Try.pinned (OpenSpec.ofChange fnCarriesSeesOnlyPresenceSpec)

/-- ITS FALSE NEIGHBOUR: 'it returns false'. Refute it at one input. -/
def fnCarriesSeesOnlyPresenceWrong : ChangeSpec := { name := "fnCarriesSeesOnlyPresence", fn := fun _ => fun
  | [d1, d2, d3, d4, d5, d6] => { results := [.lit (.bool false)], args := [d1, d2, d3, d4, d5, d6] }
  | _ => none }
def FnCarriesSeesOnlyPresenceWrongFalsely : Prop := fnCarriesSeesOnlyPresenceRow.holds Try.pinned (OpenSpec.ofChange fnCarriesSeesOnlyPresenceWrong)

/-- 'zzlaws_internal_txn_b1.FnCarriesCountsAndToggles': WHATEVER THE INPUT: true; the input reads as it did. -/
def fnCarriesCountsAndTogglesSpec : ChangeSpec := { name := "fnCarriesCountsAndToggles", fn := fun _ => fun
  | [d1, d2, d3, d4] => { results := [.lit (.bool true)], args := [d1, d2, d3, d4] }
  | _ => none }
def fnCarriesCountsAndTogglesRow : OpenClaim := { program := "qxb6600100a", sum := "b4c7ca0ff3f0c47aa688135d039deeca5749124847c87fa5ef20874969a198d9", func := "example.com/concordat/concordat/zzlaws_internal_txn_b1.FnCarriesCountsAndToggles", spec := "fnCarriesCountsAndToggles", apart := false }
def FnCarriesCountsAndTogglesSaid : Prop := fnCarriesCountsAndTogglesRow.holds Try.pinned (OpenSpec.ofChange fnCarriesCountsAndTogglesSpec)

/-- ITS FALSE NEIGHBOUR: 'it returns false'. Refute it at one input. -/
def fnCarriesCountsAndTogglesWrong : ChangeSpec := { name := "fnCarriesCountsAndToggles", fn := fun _ => fun
  | [d1, d2, d3, d4] => { results := [.lit (.bool false)], args := [d1, d2, d3, d4] }
  | _ => none }
def FnCarriesCountsAndTogglesWrongFalsely : Prop := fnCarriesCountsAndTogglesRow.holds Try.pinned (OpenSpec.ofChange fnCarriesCountsAndTogglesWrong)

end Rows
end Go.Proofs.Qxb6600100a
