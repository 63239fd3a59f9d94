/-
  No cell of these rows narrows 'for every input' (looked for: loops, veiled, ifaces, maps, wideKeys, modest, calm, conditions, laid).
  DERIVED. THE GIVEN ROWS OF THIS SEAT. 2 by the template 'for every input the law returns true; each argument reads behind the call as it read before'; 0 by the template 'total and deterministic' (their statements: Qxb6600563aTotals.lean).
  GIVEN WITH THE SEED: the statements are not yours to turn. If you find one false, say at which input.
  Laid BY PROGRAM, IN A SANDBOX (cutbox-rows.mjs): the forced cells as the released guide's own fill.sh prints them over the translation 1855851a6352b4a9… (all of the seat's roots in one cut). By AI agents, Wed Nov 11 2026. No macro, syntax, notation, axiom, sorry.
-/
import Derived.Test.Qxb6600563aChecked
import GoSem.Claim
import GoSem.ClaimJoined
import GoSem.ClaimMapViews
import Derived.JoinedTies
import Derived.KernelRfl
namespace Go.Proofs.Qxb6600563a
/- THE CELL 'sum', in the pinned program and in every row, IS THE sha256 OF THE DUMP (.gsa) THAT Qxb6600563aProg.lean LOADS. Nothing in Lean hashes anything: it is a label: what it is worth is what the hold of that sum in a sandbox is worth. -/
noncomputable def Try.pinned : Pinned := { name := "qxb6600563a", sum := "1855851a6352b4a96a26c9f06bd54950d5c98771cf914a0a82fdea9ab9db0d6a", checked := Try.checked }
namespace Rows
def none {H : Type} : Left H := { results := [], args := [] }

/-- 'zzlaws_root_b1.FnTakeHeadAdditive': WHATEVER THE INPUT: true; the input reads as it did. -/
def fnTakeHeadAdditiveSpec : ChangeSpec := { name := "fnTakeHeadAdditive", fn := fun _ => fun
  | [d1, d2, d3, d4, d5] => { results := [.lit (.bool true)], args := [d1, d2, d3, d4, d5] }
  | _ => none }
def fnTakeHeadAdditiveRow : OpenClaim := { program := "qxb6600563a", sum := "1855851a6352b4a96a26c9f06bd54950d5c98771cf914a0a82fdea9ab9db0d6a", func := "example.com/knitt/knitt/zzlaws_root_b1.FnTakeHeadAdditive", spec := "fnTakeHeadAdditive", apart := false }
def FnTakeHeadAdditiveSaid : Prop := fnTakeHeadAdditiveRow.holds Try.pinned (OpenSpec.ofChange fnTakeHeadAdditiveSpec)

/-- ITS FALSE NEIGHBOUR: 'it returns false'. Refute it at one input. -/
def fnTakeHeadAdditiveWrong : ChangeSpec := { name := "fnTakeHeadAdditive", fn := fun _ => fun
  | [d1, d2, d3, d4, d5] => { results := [.lit (.bool false)], args := [d1, d2, d3, d4, d5] }
  | _ => none }
def FnTakeHeadAdditiveWrongFalsely : Prop := fnTakeHeadAdditiveRow.holds Try.pinned (OpenSpec.ofChange fnTakeHeadAdditiveWrong)

/-- 'zzlaws_root_b1.FnTakeHeadKeepsRingValid': WHATEVER THE INPUT: true; the input reads as it did. -/
def fnTakeHeadKeepsRingValidSpec : ChangeSpec := { name := "fnTakeHeadKeepsRingValid", fn := fun _ => fun
  | [d1, d2, d3, d4] => { results := [.lit (.bool true)], args := [d1, d2, d3, d4] }
  | _ => none }
def fnTakeHeadKeepsRingValidRow : OpenClaim := { program := "qxb6600563a", sum := "1855851a6352b4a96a26c9f06bd54950d5c98771cf914a0a82fdea9ab9db0d6a", func := "example.com/knitt/knitt/zzlaws_root_b1.FnTakeHeadKeepsRingValid", spec := "fnTakeHeadKeepsRingValid", apart := false }
def FnTakeHeadKeepsRingValidSaid : Prop := fnTakeHeadKeepsRingValidRow.holds Try.pinned (OpenSpec.ofChange fnTakeHeadKeepsRingValidSpec)

/-- ITS FALSE NEIGHBOUR: 'it returns false'. Refute it at one input. -/
def fnTakeHeadKeepsRingValidWrong : ChangeSpec := { name := "fnTakeHeadKeepsRingValid", fn := fun _ => fun
  | [d1, d2, d3, d4] => { results := [.lit (.bool false)], args := [d1, d2, d3, d4] }
  | _ => none }
def FnTakeHeadKeepsRingValidWrongFalsely : Prop := fnTakeHeadKeepsRingValidRow.holds Try.pinned (OpenSpec.ofChange fnTakeHeadKeepsRingValidWrong)

end Rows
end Go.Proofs.Qxb6600563a
