/-
  No cell of these rows narrows 'for every input' (looked for: loops, veiled, ifaces, maps, wideKeys, modest, calm, conditions, laid).
  DERIVED. THE GIVEN ROWS OF THIS SEAT. 3 by the template 'for every input the law returns true; each argument reads behind the call as it read before'; 0 by the template 'total and deterministic' (their statements: Qxb6600118aTotals.lean).
  GIVEN WITH THE SEED: the statements are not yours to turn. If you find one false, say at which input.
  Laid BY PROGRAM, IN A SANDBOX (cutbox-rows.mjs): the forced cells as the released guide's own fill.sh prints them over the translation 7f79c61ea222fece… (all of the seat's roots in one cut). By AI agents, Wed Nov 11 2026. No macro, syntax, notation, axiom, sorry.
-/
import Derived.Test.Qxb6600118aChecked
import GoSem.Claim
import GoSem.ClaimJoined
import GoSem.ClaimMapViews
import Derived.JoinedTies
import Derived.KernelRfl
namespace Go.Proofs.Qxb6600118a
/- THE CELL 'sum', in the pinned program and in every row, IS THE sha256 OF THE DUMP (.gsa) THAT Qxb6600118aProg.lean LOADS. Nothing in Lean hashes anything: it is a label: what it is worth is what the hold of that sum in a sandbox is worth. -/
noncomputable def Try.pinned : Pinned := { name := "qxb6600118a", sum := "7f79c61ea222fece327f78fceb590ece0e97cc3ecf237a98388da3f170d07714", checked := Try.checked }
namespace Rows
def none {H : Type} : Left H := { results := [], args := [] }

/-- 'zzlaws_pkg_scope_b1.FnReachWildcardRequestMatchesNamesOneLabelBelow': WHATEVER THE INPUT: true; the input reads as it did. -/
def fnReachWildcardRequestMatchesNamesOneLabelBelowSpec : ChangeSpec := { name := "fnReachWildcardRequestMatchesNamesOneLabelBelow", fn := fun _ => fun
  | [d1, d2] => { results := [.lit (.bool true)], args := [d1, d2] }
  | _ => none }
def fnReachWildcardRequestMatchesNamesOneLabelBelowRow : OpenClaim := { program := "qxb6600118a", sum := "7f79c61ea222fece327f78fceb590ece0e97cc3ecf237a98388da3f170d07714", func := "example.com/zonewitness/zonewitness/zzlaws_pkg_scope_b1.FnReachWildcardRequestMatchesNamesOneLabelBelow", spec := "fnReachWildcardRequestMatchesNamesOneLabelBelow", apart := false }
def FnReachWildcardRequestMatchesNamesOneLabelBelowSaid : Prop := fnReachWildcardRequestMatchesNamesOneLabelBelowRow.holds Try.pinned (OpenSpec.ofChange fnReachWildcardRequestMatchesNamesOneLabelBelowSpec)

/-- ITS FALSE NEIGHBOUR: 'it returns false'. Refute it at one input. -/
def fnReachWildcardRequestMatchesNamesOneLabelBelowWrong : ChangeSpec := { name := "fnReachWildcardRequestMatchesNamesOneLabelBelow", fn := fun _ => fun
  | [d1, d2] => { results := [.lit (.bool false)], args := [d1, d2] }
  | _ => none }
def FnReachWildcardRequestMatchesNamesOneLabelBelowWrongFalsely : Prop := fnReachWildcardRequestMatchesNamesOneLabelBelowRow.holds Try.pinned (OpenSpec.ofChange fnReachWildcardRequestMatchesNamesOneLabelBelowWrong)

/-- 'zzlaws_pkg_scope_b1.FnReachDomainScopeWidestHostWildcardDisjoint': WHATEVER THE INPUT: true; the input reads as it did. -/
def fnReachDomainScopeWidestHostWildcardDisjointSpec : ChangeSpec := { name := "fnReachDomainScopeWidestHostWildcardDisjoint", fn := fun _ => fun
  | [d1, d2, d3] => { results := [.lit (.bool true)], args := [d1, d2, d3] }
  | _ => none }
def fnReachDomainScopeWidestHostWildcardDisjointRow : OpenClaim := { program := "qxb6600118a", sum := "7f79c61ea222fece327f78fceb590ece0e97cc3ecf237a98388da3f170d07714", func := "example.com/zonewitness/zonewitness/zzlaws_pkg_scope_b1.FnReachDomainScopeWidestHostWildcardDisjoint", spec := "fnReachDomainScopeWidestHostWildcardDisjoint", apart := false }
def FnReachDomainScopeWidestHostWildcardDisjointSaid : Prop := fnReachDomainScopeWidestHostWildcardDisjointRow.holds Try.pinned (OpenSpec.ofChange fnReachDomainScopeWidestHostWildcardDisjointSpec)

/-- ITS FALSE NEIGHBOUR: 'it returns false'. Refute it at one input. -/
def fnReachDomainScopeWidestHostWildcardDisjointWrong : ChangeSpec := { name := "fnReachDomainScopeWidestHostWildcardDisjoint", fn := fun _ => fun
  | [d1, d2, d3] => { results := [.lit (.bool false)], args := [d1, d2, d3] }
  | _ => none }
def FnReachDomainScopeWidestHostWildcardDisjointWrongFalsely : Prop := fnReachDomainScopeWidestHostWildcardDisjointRow.holds Try.pinned (OpenSpec.ofChange fnReachDomainScopeWidestHostWildcardDisjointWrong)

/-- 'zzlaws_pkg_scope_b1.FnReachReasonTellsTheTruth': WHATEVER THE INPUT: true; the input reads as it did. -/
def fnReachReasonTellsTheTruthSpec : ChangeSpec := { name := "fnReachReasonTellsTheTruth", fn := fun _ => fun
  | [d1, d2, d3] => { results := [.lit (.bool true)], args := [d1, d2, d3] }
  | _ => none }
def fnReachReasonTellsTheTruthRow : OpenClaim := { program := "qxb6600118a", sum := "7f79c61ea222fece327f78fceb590ece0e97cc3ecf237a98388da3f170d07714", func := "example.com/zonewitness/zonewitness/zzlaws_pkg_scope_b1.FnReachReasonTellsTheTruth", spec := "fnReachReasonTellsTheTruth", apart := false }
def FnReachReasonTellsTheTruthSaid : Prop := fnReachReasonTellsTheTruthRow.holds Try.pinned (OpenSpec.ofChange fnReachReasonTellsTheTruthSpec)

/-- ITS FALSE NEIGHBOUR: 'it returns false'. Refute it at one input. -/
def fnReachReasonTellsTheTruthWrong : ChangeSpec := { name := "fnReachReasonTellsTheTruth", fn := fun _ => fun
  | [d1, d2, d3] => { results := [.lit (.bool false)], args := [d1, d2, d3] }
  | _ => none }
def FnReachReasonTellsTheTruthWrongFalsely : Prop := fnReachReasonTellsTheTruthRow.holds Try.pinned (OpenSpec.ofChange fnReachReasonTellsTheTruthWrong)

end Rows
end Go.Proofs.Qxb6600118a
