/-
  No cell of these rows narrows 'for every input' (looked for: loops, veiled, ifaces, maps, wideKeys, modest, calm, conditions, laid).
  DERIVED. THE GIVEN ROWS OF THIS SEAT. 3 by the template 'for every input the law returns true; each argument reads behind the call as it read before'; 0 by the template 'total and deterministic' (their statements: Qxb6608990aTotals.lean).
  GIVEN WITH THE SEED: the statements are not yours to turn. If you find one false, say at which input.
  Laid BY PROGRAM, IN A SANDBOX (cutbox-rows.mjs): the forced cells as the released guide's own fill.sh prints them over the translation b6a89b5255916398… (all of the seat's roots in one cut). By AI agents, Wed Nov 11 2026. No macro, syntax, notation, axiom, sorry.
-/
import Derived.Test.Qxb6608990aChecked
import GoSem.Claim
import GoSem.ClaimJoined
import GoSem.ClaimMapViews
import Derived.JoinedTies
import Derived.KernelRfl
namespace Go.Proofs.Qxb6608990a
/- THE CELL 'sum', in the pinned program and in every row, IS THE sha256 OF THE DUMP (.gsa) THAT Qxb6608990aProg.lean LOADS. Nothing in Lean hashes anything: it is a label: what it is worth is what the hold of that sum in a sandbox is worth. -/
noncomputable def Try.pinned : Pinned := { name := "qxb6608990a", sum := "b6a89b52559163982c8a93198c61dbe0620b9411bda8355ca87684394cd998a7", checked := Try.checked }
namespace Rows
def none {H : Type} : Left H := { results := [], args := [] }

/-- 'zzlaws_pkg_profile_b1.FnSecuritiesSelectsOwnClassPassesRemovedClassFails': WHATEVER THE INPUT: true; the input reads as it did. -/
def fnSecuritiesSelectsOwnClassPassesRemovedClassFailsSpec : ChangeSpec := { name := "fnSecuritiesSelectsOwnClassPassesRemovedClassFails", fn := fun _ => fun
  | [d1, d2, d3, d4, d5] => { results := [.lit (.bool true)], args := [d1, d2, d3, d4, d5] }
  | _ => none }
def fnSecuritiesSelectsOwnClassPassesRemovedClassFailsRow : OpenClaim := { program := "qxb6608990a", sum := "b6a89b52559163982c8a93198c61dbe0620b9411bda8355ca87684394cd998a7", func := "example.com/custos/custos/zzlaws_pkg_profile_b1.FnSecuritiesSelectsOwnClassPassesRemovedClassFails", spec := "fnSecuritiesSelectsOwnClassPassesRemovedClassFails", unfollowed := true, recurses := true, apart := false }
def FnSecuritiesSelectsOwnClassPassesRemovedClassFailsSaid : Prop := fnSecuritiesSelectsOwnClassPassesRemovedClassFailsRow.holds Try.pinned (OpenSpec.ofChange fnSecuritiesSelectsOwnClassPassesRemovedClassFailsSpec)

/-- ITS FALSE NEIGHBOUR: 'it returns false'. Refute it at one input. -/
def fnSecuritiesSelectsOwnClassPassesRemovedClassFailsWrong : ChangeSpec := { name := "fnSecuritiesSelectsOwnClassPassesRemovedClassFails", fn := fun _ => fun
  | [d1, d2, d3, d4, d5] => { results := [.lit (.bool false)], args := [d1, d2, d3, d4, d5] }
  | _ => none }
def FnSecuritiesSelectsOwnClassPassesRemovedClassFailsWrongFalsely : Prop := fnSecuritiesSelectsOwnClassPassesRemovedClassFailsRow.holds Try.pinned (OpenSpec.ofChange fnSecuritiesSelectsOwnClassPassesRemovedClassFailsWrong)

/-- 'zzlaws_pkg_profile_b1.FnFindAgreesOverAnyCut': WHATEVER THE INPUT: true; the input reads as it did. -/
def fnFindAgreesOverAnyCutSpec : ChangeSpec := { name := "fnFindAgreesOverAnyCut", fn := fun _ => fun
  | [d1, d2, d3] => { results := [.lit (.bool true)], args := [d1, d2, d3] }
  | _ => none }
def fnFindAgreesOverAnyCutRow : OpenClaim := { program := "qxb6608990a", sum := "b6a89b52559163982c8a93198c61dbe0620b9411bda8355ca87684394cd998a7", func := "example.com/custos/custos/zzlaws_pkg_profile_b1.FnFindAgreesOverAnyCut", spec := "fnFindAgreesOverAnyCut", inPlace := ["internal/bytealg.abigen_runtime_cmpstring"], unfollowed := true, recurses := true, apart := false }
def FnFindAgreesOverAnyCutSaid : Prop := fnFindAgreesOverAnyCutRow.holds Try.pinned (OpenSpec.ofChange fnFindAgreesOverAnyCutSpec)

/-- ITS FALSE NEIGHBOUR: 'it returns false'. Refute it at one input. -/
def fnFindAgreesOverAnyCutWrong : ChangeSpec := { name := "fnFindAgreesOverAnyCut", fn := fun _ => fun
  | [d1, d2, d3] => { results := [.lit (.bool false)], args := [d1, d2, d3] }
  | _ => none }
def FnFindAgreesOverAnyCutWrongFalsely : Prop := fnFindAgreesOverAnyCutRow.holds Try.pinned (OpenSpec.ofChange fnFindAgreesOverAnyCutWrong)

/-- 'zzlaws_pkg_profile_b1.FnFindInsertOrRemoveRoundTrip': WHATEVER THE INPUT: true; the input reads as it did. -/
def fnFindInsertOrRemoveRoundTripSpec : ChangeSpec := { name := "fnFindInsertOrRemoveRoundTrip", fn := fun _ => fun
  | [d1, d2] => { results := [.lit (.bool true)], args := [d1, d2] }
  | _ => none }
def fnFindInsertOrRemoveRoundTripRow : OpenClaim := { program := "qxb6608990a", sum := "b6a89b52559163982c8a93198c61dbe0620b9411bda8355ca87684394cd998a7", func := "example.com/custos/custos/zzlaws_pkg_profile_b1.FnFindInsertOrRemoveRoundTrip", spec := "fnFindInsertOrRemoveRoundTrip", inPlace := ["internal/bytealg.abigen_runtime_cmpstring"], unfollowed := true, recurses := true, apart := false }
def FnFindInsertOrRemoveRoundTripSaid : Prop := fnFindInsertOrRemoveRoundTripRow.holds Try.pinned (OpenSpec.ofChange fnFindInsertOrRemoveRoundTripSpec)

/-- ITS FALSE NEIGHBOUR: 'it returns false'. Refute it at one input. -/
def fnFindInsertOrRemoveRoundTripWrong : ChangeSpec := { name := "fnFindInsertOrRemoveRoundTrip", fn := fun _ => fun
  | [d1, d2] => { results := [.lit (.bool false)], args := [d1, d2] }
  | _ => none }
def FnFindInsertOrRemoveRoundTripWrongFalsely : Prop := fnFindInsertOrRemoveRoundTripRow.holds Try.pinned (OpenSpec.ofChange fnFindInsertOrRemoveRoundTripWrong)

end Rows
end Go.Proofs.Qxb6608990a
