/-
  No cell of these rows narrows 'for every input' (looked for: loops, veiled, ifaces, maps, wideKeys, modest, calm, conditions, laid).
  DERIVED. THE GIVEN ROWS OF THIS SEAT. 3 by the template 'for every input the law returns true; each argument reads behind the call as it read before'; 0 by the template 'total and deterministic' (their statements: Qxb6605343aTotals.lean).
  GIVEN WITH THE SEED: the statements are not yours to turn. If you find one false, say at which input.
  Laid BY PROGRAM, IN A SANDBOX (cutbox-rows.mjs): the forced cells as the released guide's own fill.sh prints them over the translation 8894a1979f1405ff… (all of the seat's roots in one cut). By AI agents, Wed Nov 11 2026. No macro, syntax, notation, axiom, sorry.
-/
import Derived.Test.Qxb6605343aChecked
import GoSem.Claim
import GoSem.ClaimJoined
import GoSem.ClaimMapViews
import Derived.JoinedTies
import Derived.KernelRfl
namespace Go.Proofs.Qxb6605343a
/- THE CELL 'sum', in the pinned program and in every row, IS THE sha256 OF THE DUMP (.gsa) THAT Qxb6605343aProg.lean LOADS. Nothing in Lean hashes anything: it is a label: what it is worth is what the hold of that sum in a sandbox is worth. -/
noncomputable def Try.pinned : Pinned := { name := "qxb6605343a", sum := "8894a1979f1405ff27bc682abe62bf0f4f36ea045a136ce6e403fc8ab17d40e0", checked := Try.checked }
namespace Rows
def none {H : Type} : Left H := { results := [], args := [] }

/-- 'zzlaws_internal_jsonline_b1.FnKindStringNamesApart': WHATEVER THE INPUT: true; the input reads as it did. -/
def fnKindStringNamesApartSpec : ChangeSpec := { name := "fnKindStringNamesApart", fn := fun _ => fun
  | [d1, d2] => { results := [.lit (.bool true)], args := [d1, d2] }
  | _ => none }
def fnKindStringNamesApartRow : OpenClaim := { program := "qxb6605343a", sum := "8894a1979f1405ff27bc682abe62bf0f4f36ea045a136ce6e403fc8ab17d40e0", func := "example.com/anchorrate/anchorrate/zzlaws_internal_jsonline_b1.FnKindStringNamesApart", spec := "fnKindStringNamesApart", apart := false }
def FnKindStringNamesApartSaid : Prop := fnKindStringNamesApartRow.holds Try.pinned (OpenSpec.ofChange fnKindStringNamesApartSpec)

/-- ITS FALSE NEIGHBOUR: 'it returns false'. Refute it at one input. -/
def fnKindStringNamesApartWrong : ChangeSpec := { name := "fnKindStringNamesApart", fn := fun _ => fun
  | [d1, d2] => { results := [.lit (.bool false)], args := [d1, d2] }
  | _ => none }
def FnKindStringNamesApartWrongFalsely : Prop := fnKindStringNamesApartRow.holds Try.pinned (OpenSpec.ofChange fnKindStringNamesApartWrong)

/-- 'zzlaws_internal_jsonline_b1.FnKnowPlainMarksStringContents': WHATEVER THE INPUT: true; the input reads as it did. -/
def fnKnowPlainMarksStringContentsSpec : ChangeSpec := { name := "fnKnowPlainMarksStringContents", fn := fun _ => fun
  | [d1, d2, d3, d4, d5] => { results := [.lit (.bool true)], args := [d1, d2, d3, d4, d5] }
  | _ => none }
def fnKnowPlainMarksStringContentsRow : OpenClaim := { program := "qxb6605343a", sum := "8894a1979f1405ff27bc682abe62bf0f4f36ea045a136ce6e403fc8ab17d40e0", func := "example.com/anchorrate/anchorrate/zzlaws_internal_jsonline_b1.FnKnowPlainMarksStringContents", spec := "fnKnowPlainMarksStringContents", apart := false }
def FnKnowPlainMarksStringContentsSaid : Prop := fnKnowPlainMarksStringContentsRow.holds Try.pinned (OpenSpec.ofChange fnKnowPlainMarksStringContentsSpec)

/-- ITS FALSE NEIGHBOUR: 'it returns false'. Refute it at one input. -/
def fnKnowPlainMarksStringContentsWrong : ChangeSpec := { name := "fnKnowPlainMarksStringContents", fn := fun _ => fun
  | [d1, d2, d3, d4, d5] => { results := [.lit (.bool false)], args := [d1, d2, d3, d4, d5] }
  | _ => none }
def FnKnowPlainMarksStringContentsWrongFalsely : Prop := fnKnowPlainMarksStringContentsRow.holds Try.pinned (OpenSpec.ofChange fnKnowPlainMarksStringContentsWrong)

/-- 'zzlaws_internal_jsonline_b1.FnTakeAlikeAgainstModel': WHATEVER THE INPUT: true; the input reads as it did. -/
def fnTakeAlikeAgainstModelSpec : ChangeSpec := { name := "fnTakeAlikeAgainstModel", fn := fun _ => fun
  | [d1, d2, d3, d4, d5, d6, d7] => { results := [.lit (.bool true)], args := [d1, d2, d3, d4, d5, d6, d7] }
  | _ => none }
def fnTakeAlikeAgainstModelRow : OpenClaim := { program := "qxb6605343a", sum := "8894a1979f1405ff27bc682abe62bf0f4f36ea045a136ce6e403fc8ab17d40e0", func := "example.com/anchorrate/anchorrate/zzlaws_internal_jsonline_b1.FnTakeAlikeAgainstModel", spec := "fnTakeAlikeAgainstModel", apart := false }
def FnTakeAlikeAgainstModelSaid : Prop := fnTakeAlikeAgainstModelRow.holds Try.pinned (OpenSpec.ofChange fnTakeAlikeAgainstModelSpec)

/-- ITS FALSE NEIGHBOUR: 'it returns false'. Refute it at one input. -/
def fnTakeAlikeAgainstModelWrong : ChangeSpec := { name := "fnTakeAlikeAgainstModel", fn := fun _ => fun
  | [d1, d2, d3, d4, d5, d6, d7] => { results := [.lit (.bool false)], args := [d1, d2, d3, d4, d5, d6, d7] }
  | _ => none }
def FnTakeAlikeAgainstModelWrongFalsely : Prop := fnTakeAlikeAgainstModelRow.holds Try.pinned (OpenSpec.ofChange fnTakeAlikeAgainstModelWrong)

end Rows
end Go.Proofs.Qxb6605343a
