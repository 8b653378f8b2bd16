/-
  No cell of these rows narrows 'for every input' (looked for: loops, veiled, ifaces, maps, wideKeys, modest, calm, conditions, laid).
  DERIVED. THE GIVEN ROWS OF THIS SEAT. 2 by the template 'for every input the law returns true; each argument reads behind the call as it read before'; 0 by the template 'total and deterministic' (their statements: Qxb6615058aTotals.lean).
  GIVEN WITH THE SEED: the statements are not yours to turn. If you find one false, say at which input.
  Laid BY PROGRAM, IN A SANDBOX (cutbox-rows.mjs): the forced cells as the released guide's own fill.sh prints them over the translation 2a13250228c669a3… (all of the seat's roots in one cut). By AI agents, Wed Nov 11 2026. No macro, syntax, notation, axiom, sorry.
-/
import Derived.Test.Qxb6615058aChecked
import GoSem.Claim
import GoSem.ClaimJoined
import GoSem.ClaimMapViews
import Derived.JoinedTies
import Derived.KernelRfl
namespace Go.Proofs.Qxb6615058a
/- THE CELL 'sum', in the pinned program and in every row, IS THE sha256 OF THE DUMP (.gsa) THAT Qxb6615058aProg.lean LOADS. Nothing in Lean hashes anything: it is a label: what it is worth is what the hold of that sum in a sandbox is worth. -/
noncomputable def Try.pinned : Pinned := { name := "qxb6615058a", sum := "2a13250228c669a3d7e332b6bf9603f72e7b9950a27cbcb36341c193cce4dcab", checked := Try.checked }
namespace Rows
def none {H : Type} : Left H := { results := [], args := [] }

/-- 'zzlaws_pkg_exact_b1.FnSignTimesAbs': WHATEVER THE INPUT: true; the input reads as it did. -/
def fnSignTimesAbsSpec : ChangeSpec := { name := "fnSignTimesAbs", fn := fun _ => fun
  | [d] => { results := [.lit (.bool true)], args := [d] }
  | _ => none }
def fnSignTimesAbsRow : OpenClaim := { program := "qxb6615058a", sum := "2a13250228c669a3d7e332b6bf9603f72e7b9950a27cbcb36341c193cce4dcab", func := "example.com/vestbook/vestbook/zzlaws_pkg_exact_b1.FnSignTimesAbs", spec := "fnSignTimesAbs", apart := false }
def FnSignTimesAbsSaid : Prop := fnSignTimesAbsRow.holds Try.pinned (OpenSpec.ofChange fnSignTimesAbsSpec)

/-- ITS FALSE NEIGHBOUR: 'it returns false'. Refute it at one input. -/
def fnSignTimesAbsWrong : ChangeSpec := { name := "fnSignTimesAbs", fn := fun _ => fun
  | [d] => { results := [.lit (.bool false)], args := [d] }
  | _ => none }
def FnSignTimesAbsWrongFalsely : Prop := fnSignTimesAbsRow.holds Try.pinned (OpenSpec.ofChange fnSignTimesAbsWrong)

/-- 'zzlaws_pkg_exact_b1.FnSignOdd': WHATEVER THE INPUT: true; the input reads as it did. -/
def fnSignOddSpec : ChangeSpec := { name := "fnSignOdd", fn := fun _ => fun
  | [d] => { results := [.lit (.bool true)], args := [d] }
  | _ => none }
def fnSignOddRow : OpenClaim := { program := "qxb6615058a", sum := "2a13250228c669a3d7e332b6bf9603f72e7b9950a27cbcb36341c193cce4dcab", func := "example.com/vestbook/vestbook/zzlaws_pkg_exact_b1.FnSignOdd", spec := "fnSignOdd", apart := false }
def FnSignOddSaid : Prop := fnSignOddRow.holds Try.pinned (OpenSpec.ofChange fnSignOddSpec)

/-- ITS FALSE NEIGHBOUR: 'it returns false'. Refute it at one input. -/
def fnSignOddWrong : ChangeSpec := { name := "fnSignOdd", fn := fun _ => fun
  | [d] => { results := [.lit (.bool false)], args := [d] }
  | _ => none }
def FnSignOddWrongFalsely : Prop := fnSignOddRow.holds Try.pinned (OpenSpec.ofChange fnSignOddWrong)

end Rows
end Go.Proofs.Qxb6615058a
