/-
  No cell of these rows narrows 'for every input' (looked for: loops, veiled, ifaces, maps, wideKeys, modest, calm, conditions, laid).
  DERIVED. THE GIVEN ROWS OF THIS SEAT. 2 by the template 'for every input the law returns true; each argument reads behind the call as it read before'; 0 by the template 'total and deterministic' (their statements: Qxb6605325aTotals.lean).
  GIVEN WITH THE SEED: the statements are not yours to turn. If you find one false, say at which input.
  Laid BY PROGRAM, IN A SANDBOX (cutbox-rows.mjs): the forced cells as the released guide's own fill.sh prints them over the translation 59b898cace874aa5… (all of the seat's roots in one cut). By AI agents, Wed Nov 11 2026. No macro, syntax, notation, axiom, sorry.
-/
import Derived.Test.Qxb6605325aChecked
import GoSem.Claim
import GoSem.ClaimJoined
import GoSem.ClaimMapViews
import Derived.JoinedTies
import Derived.KernelRfl
namespace Go.Proofs.Qxb6605325a
/- THE CELL 'sum', in the pinned program and in every row, IS THE sha256 OF THE DUMP (.gsa) THAT Qxb6605325aProg.lean LOADS. Nothing in Lean hashes anything: it is a label: what it is worth is what the hold of that sum in a sandbox is worth. -/
noncomputable def Try.pinned : Pinned := { name := "qxb6605325a", sum := "59b898cace874aa565771b149a2d3d7a60526fe68544d48074c829fa7ba0e64f", checked := Try.checked }
namespace Rows
def none {H : Type} : Left H := { results := [], args := [] }

/-- 'zzlaws_glob_b1.FnRunAgreesWithSuffixTable': WHATEVER THE INPUT: true; the input reads as it did. -/
def fnRunAgreesWithSuffixTableSpec : ChangeSpec := { name := "fnRunAgreesWithSuffixTable", fn := fun _ => fun
  | [d1, d2, d3] => { results := [.lit (.bool true)], args := [d1, d2, d3] }
  | _ => none }
def fnRunAgreesWithSuffixTableRow : OpenClaim := { program := "qxb6605325a", sum := "59b898cace874aa565771b149a2d3d7a60526fe68544d48074c829fa7ba0e64f", func := "example.com/fernshell/fernshell/zzlaws_glob_b1.FnRunAgreesWithSuffixTable", spec := "fnRunAgreesWithSuffixTable", unfollowed := true, recurses := true, apart := false }
def FnRunAgreesWithSuffixTableSaid : Prop := fnRunAgreesWithSuffixTableRow.holds Try.pinned (OpenSpec.ofChange fnRunAgreesWithSuffixTableSpec)

/-- ITS FALSE NEIGHBOUR: 'it returns false'. Refute it at one input. -/
def fnRunAgreesWithSuffixTableWrong : ChangeSpec := { name := "fnRunAgreesWithSuffixTable", fn := fun _ => fun
  | [d1, d2, d3] => { results := [.lit (.bool false)], args := [d1, d2, d3] }
  | _ => none }
def FnRunAgreesWithSuffixTableWrongFalsely : Prop := fnRunAgreesWithSuffixTableRow.holds Try.pinned (OpenSpec.ofChange fnRunAgreesWithSuffixTableWrong)

/-- 'zzlaws_glob_b1.FnAcceptsIffPastLastHardToken': WHATEVER THE INPUT: true; the input reads as it did. -/
def fnAcceptsIffPastLastHardTokenSpec : ChangeSpec := { name := "fnAcceptsIffPastLastHardToken", fn := fun _ => fun
  | [d1, d2] => { results := [.lit (.bool true)], args := [d1, d2] }
  | _ => none }
def fnAcceptsIffPastLastHardTokenRow : OpenClaim := { program := "qxb6605325a", sum := "59b898cace874aa565771b149a2d3d7a60526fe68544d48074c829fa7ba0e64f", func := "example.com/fernshell/fernshell/zzlaws_glob_b1.FnAcceptsIffPastLastHardToken", spec := "fnAcceptsIffPastLastHardToken", unfollowed := true, recurses := true, apart := false }
def FnAcceptsIffPastLastHardTokenSaid : Prop := fnAcceptsIffPastLastHardTokenRow.holds Try.pinned (OpenSpec.ofChange fnAcceptsIffPastLastHardTokenSpec)

/-- ITS FALSE NEIGHBOUR: 'it returns false'. Refute it at one input. -/
def fnAcceptsIffPastLastHardTokenWrong : ChangeSpec := { name := "fnAcceptsIffPastLastHardToken", fn := fun _ => fun
  | [d1, d2] => { results := [.lit (.bool false)], args := [d1, d2] }
  | _ => none }
def FnAcceptsIffPastLastHardTokenWrongFalsely : Prop := fnAcceptsIffPastLastHardTokenRow.holds Try.pinned (OpenSpec.ofChange fnAcceptsIffPastLastHardTokenWrong)

end Rows
end Go.Proofs.Qxb6605325a
