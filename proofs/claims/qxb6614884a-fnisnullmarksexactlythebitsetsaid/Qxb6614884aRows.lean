/-
  No cell of these rows narrows 'for every input' (looked for: loops, veiled, ifaces, maps, wideKeys, modest, calm, conditions, laid).
  DERIVED. THE GIVEN ROWS OF THIS SEAT. 2 by the template 'for every input the law returns true; each argument reads behind the call as it read before'; 0 by the template 'total and deterministic' (their statements: Qxb6614884aTotals.lean).
  GIVEN WITH THE SEED: the statements are not yours to turn. If you find one false, say at which input.
  Laid BY PROGRAM, IN A SANDBOX (cutbox-rows.mjs): the forced cells as the released guide's own fill.sh prints them over the translation 1541e3c40e0c1982… (all of the seat's roots in one cut). By AI agents, Wed Nov 11 2026. No macro, syntax, notation, axiom, sorry.
-/
import Derived.Test.Qxb6614884aChecked
import GoSem.Claim
import GoSem.ClaimJoined
import GoSem.ClaimMapViews
import Derived.JoinedTies
import Derived.KernelRfl
namespace Go.Proofs.Qxb6614884a
/- THE CELL 'sum', in the pinned program and in every row, IS THE sha256 OF THE DUMP (.gsa) THAT Qxb6614884aProg.lean LOADS. Nothing in Lean hashes anything: it is a label: what it is worth is what the hold of that sum in a sandbox is worth. -/
noncomputable def Try.pinned : Pinned := { name := "qxb6614884a", sum := "1541e3c40e0c19820444e648e71aa66fcb7e39d5e9b417ae7cd70e394e59c09c", checked := Try.checked }
namespace Rows
def none {H : Type} : Left H := { results := [], args := [] }

/-- 'zzlaws_root_b1.FnIsNullMarksExactlyTheBitSet': WHATEVER THE INPUT: true; the input reads as it did. -/
def fnIsNullMarksExactlyTheBitSetSpec : ChangeSpec := { name := "fnIsNullMarksExactlyTheBitSet", fn := fun _ => fun
  | [d1, d2, d3, d4] => { results := [.lit (.bool true)], args := [d1, d2, d3, d4] }
  | _ => none }
def fnIsNullMarksExactlyTheBitSetRow : OpenClaim := { program := "qxb6614884a", sum := "1541e3c40e0c19820444e648e71aa66fcb7e39d5e9b417ae7cd70e394e59c09c", func := "example.com/lenwire/lenwire/zzlaws_root_b1.FnIsNullMarksExactlyTheBitSet", spec := "fnIsNullMarksExactlyTheBitSet", apart := false }
def FnIsNullMarksExactlyTheBitSetSaid : Prop := fnIsNullMarksExactlyTheBitSetRow.holds Try.pinned (OpenSpec.ofChange fnIsNullMarksExactlyTheBitSetSpec)

/-- ITS FALSE NEIGHBOUR: 'it returns false'. Refute it at one input. -/
def fnIsNullMarksExactlyTheBitSetWrong : ChangeSpec := { name := "fnIsNullMarksExactlyTheBitSet", fn := fun _ => fun
  | [d1, d2, d3, d4] => { results := [.lit (.bool false)], args := [d1, d2, d3, d4] }
  | _ => none }
def FnIsNullMarksExactlyTheBitSetWrongFalsely : Prop := fnIsNullMarksExactlyTheBitSetRow.holds Try.pinned (OpenSpec.ofChange fnIsNullMarksExactlyTheBitSetWrong)

/-- 'zzlaws_root_b1.FnIsNullCountsThePopulation': WHATEVER THE INPUT: true; the input reads as it did. -/
def fnIsNullCountsThePopulationSpec : ChangeSpec := { name := "fnIsNullCountsThePopulation", fn := fun _ => fun
  | [d1, d2] => { results := [.lit (.bool true)], args := [d1, d2] }
  | _ => none }
def fnIsNullCountsThePopulationRow : OpenClaim := { program := "qxb6614884a", sum := "1541e3c40e0c19820444e648e71aa66fcb7e39d5e9b417ae7cd70e394e59c09c", func := "example.com/lenwire/lenwire/zzlaws_root_b1.FnIsNullCountsThePopulation", spec := "fnIsNullCountsThePopulation", apart := false }
def FnIsNullCountsThePopulationSaid : Prop := fnIsNullCountsThePopulationRow.holds Try.pinned (OpenSpec.ofChange fnIsNullCountsThePopulationSpec)

/-- ITS FALSE NEIGHBOUR: 'it returns false'. Refute it at one input. -/
def fnIsNullCountsThePopulationWrong : ChangeSpec := { name := "fnIsNullCountsThePopulation", fn := fun _ => fun
  | [d1, d2] => { results := [.lit (.bool false)], args := [d1, d2] }
  | _ => none }
def FnIsNullCountsThePopulationWrongFalsely : Prop := fnIsNullCountsThePopulationRow.holds Try.pinned (OpenSpec.ofChange fnIsNullCountsThePopulationWrong)

end Rows
end Go.Proofs.Qxb6614884a
