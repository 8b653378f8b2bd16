/-
  No cell of these rows narrows 'for every input' (looked for: loops, veiled, ifaces, maps, wideKeys, modest, calm, conditions, laid).
  DERIVED. THE GIVEN ROWS OF THIS SEAT. 3 by the template 'for every input the law returns true; each argument reads behind the call as it read before'; 0 by the template 'total and deterministic' (their statements: Qxb6615580aTotals.lean).
  GIVEN WITH THE SEED: the statements are not yours to turn. If you find one false, say at which input.
  Laid BY PROGRAM, IN A SANDBOX (cutbox-rows.mjs): the forced cells as the released guide's own fill.sh prints them over the translation fdb68fd8967c8c77… (all of the seat's roots in one cut). By AI agents, Wed Nov 11 2026. No macro, syntax, notation, axiom, sorry.
-/
import Derived.Test.Qxb6615580aChecked
import GoSem.Claim
import GoSem.ClaimJoined
import GoSem.ClaimMapViews
import Derived.JoinedTies
import Derived.KernelRfl
namespace Go.Proofs.Qxb6615580a
/- THE CELL 'sum', in the pinned program and in every row, IS THE sha256 OF THE DUMP (.gsa) THAT Qxb6615580aProg.lean LOADS. Nothing in Lean hashes anything: it is a label: what it is worth is what the hold of that sum in a sandbox is worth. -/
noncomputable def Try.pinned : Pinned := { name := "qxb6615580a", sum := "fdb68fd8967c8c77153c74b093d5655539f8933274ce1d32d65ec54bf2136a27", checked := Try.checked }
namespace Rows
def none {H : Type} : Left H := { results := [], args := [] }

/-- 'zzlaws_internal_channel_b1.FnHasByNameAllStandsForItself': WHATEVER THE INPUT: true; the input reads as it did. -/
def fnHasByNameAllStandsForItselfSpec : ChangeSpec := { name := "fnHasByNameAllStandsForItself", fn := fun _ => fun
  | [d1, d2] => { results := [.lit (.bool true)], args := [d1, d2] }
  | _ => none }
def fnHasByNameAllStandsForItselfRow : OpenClaim := { program := "qxb6615580a", sum := "fdb68fd8967c8c77153c74b093d5655539f8933274ce1d32d65ec54bf2136a27", func := "example.com/malachi/malachi/zzlaws_internal_channel_b1.FnHasByNameAllStandsForItself", spec := "fnHasByNameAllStandsForItself", apart := false }
def FnHasByNameAllStandsForItselfSaid : Prop := fnHasByNameAllStandsForItselfRow.holds Try.pinned (OpenSpec.ofChange fnHasByNameAllStandsForItselfSpec)

/-- ITS FALSE NEIGHBOUR: 'it returns false'. Refute it at one input. -/
def fnHasByNameAllStandsForItselfWrong : ChangeSpec := { name := "fnHasByNameAllStandsForItself", fn := fun _ => fun
  | [d1, d2] => { results := [.lit (.bool false)], args := [d1, d2] }
  | _ => none }
def FnHasByNameAllStandsForItselfWrongFalsely : Prop := fnHasByNameAllStandsForItselfRow.holds Try.pinned (OpenSpec.ofChange fnHasByNameAllStandsForItselfWrong)

/-- 'zzlaws_internal_channel_b1.FnHasAnyOverJoinedNames': WHATEVER THE INPUT: true; the input reads as it did. -/
def fnHasAnyOverJoinedNamesSpec : ChangeSpec := { name := "fnHasAnyOverJoinedNames", fn := fun _ => fun
  | [d1, d2, d3] => { results := [.lit (.bool true)], args := [d1, d2, d3] }
  | _ => none }
def fnHasAnyOverJoinedNamesRow : OpenClaim := { program := "qxb6615580a", sum := "fdb68fd8967c8c77153c74b093d5655539f8933274ce1d32d65ec54bf2136a27", func := "example.com/malachi/malachi/zzlaws_internal_channel_b1.FnHasAnyOverJoinedNames", spec := "fnHasAnyOverJoinedNames", unfollowed := true, recurses := true, apart := false }
def FnHasAnyOverJoinedNamesSaid : Prop := fnHasAnyOverJoinedNamesRow.holds Try.pinned (OpenSpec.ofChange fnHasAnyOverJoinedNamesSpec)

/-- ITS FALSE NEIGHBOUR: 'it returns false'. Refute it at one input. -/
def fnHasAnyOverJoinedNamesWrong : ChangeSpec := { name := "fnHasAnyOverJoinedNames", fn := fun _ => fun
  | [d1, d2, d3] => { results := [.lit (.bool false)], args := [d1, d2, d3] }
  | _ => none }
def FnHasAnyOverJoinedNamesWrongFalsely : Prop := fnHasAnyOverJoinedNamesRow.holds Try.pinned (OpenSpec.ofChange fnHasAnyOverJoinedNamesWrong)

/-- 'zzlaws_internal_channel_b1.FnHasAnyAgreesWithHasByName': WHATEVER THE INPUT: true; the input reads as it did. -/
def fnHasAnyAgreesWithHasByNameSpec : ChangeSpec := { name := "fnHasAnyAgreesWithHasByName", fn := fun _ => fun
  | [d1, d2] => { results := [.lit (.bool true)], args := [d1, d2] }
  | _ => none }
def fnHasAnyAgreesWithHasByNameRow : OpenClaim := { program := "qxb6615580a", sum := "fdb68fd8967c8c77153c74b093d5655539f8933274ce1d32d65ec54bf2136a27", func := "example.com/malachi/malachi/zzlaws_internal_channel_b1.FnHasAnyAgreesWithHasByName", spec := "fnHasAnyAgreesWithHasByName", unfollowed := true, recurses := true, apart := false }
def FnHasAnyAgreesWithHasByNameSaid : Prop := fnHasAnyAgreesWithHasByNameRow.holds Try.pinned (OpenSpec.ofChange fnHasAnyAgreesWithHasByNameSpec)

/-- ITS FALSE NEIGHBOUR: 'it returns false'. Refute it at one input. -/
def fnHasAnyAgreesWithHasByNameWrong : ChangeSpec := { name := "fnHasAnyAgreesWithHasByName", fn := fun _ => fun
  | [d1, d2] => { results := [.lit (.bool false)], args := [d1, d2] }
  | _ => none }
def FnHasAnyAgreesWithHasByNameWrongFalsely : Prop := fnHasAnyAgreesWithHasByNameRow.holds Try.pinned (OpenSpec.ofChange fnHasAnyAgreesWithHasByNameWrong)

end Rows
end Go.Proofs.Qxb6615580a
