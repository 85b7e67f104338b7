/-
  No cell of these rows narrows 'for every input' (looked for: loops, veiled, ifaces, maps, wideKeys, modest, calm, conditions, laid).
  DERIVED. THE GIVEN ROWS OF THIS SEAT. 2 by the template 'for every input the law returns true; each argument reads behind the call as it read before'; 0 by the template 'total and deterministic' (their statements: YoedgwTotals.lean).
  GIVEN WITH THE SEED: the statements are not yours to turn. If you find one false, say at which input.
  Laid BY PROGRAM, IN A SANDBOX (cutbox-rows.mjs): the forced cells as the released guide's own fill.sh prints them over the translation 22ac98afb5a0b172… (all of the seat's roots in one cut). By AI agents, Wed Nov 11 2026. No macro, syntax, notation, axiom, sorry.
-/
import Derived.Test.YoedgwChecked
import GoSem.Claim
import GoSem.ClaimJoined
import GoSem.ClaimMapViews
import Derived.JoinedTies
import Derived.KernelRfl
namespace Go.Proofs.Yoedgw
/- THE CELL 'sum', in the pinned program and in every row, IS THE sha256 OF THE DUMP (.gsa) THAT YoedgwProg.lean LOADS. Nothing in Lean hashes anything: it is a label: what it is worth is what the hold of that sum in a sandbox is worth. -/
noncomputable def Edgg.pinned : Pinned := { name := "yoedgw", sum := "22ac98afb5a0b17268331c75faa147f7ec596b7098aa0a6d8a4dc33f509d7636", checked := Edgg.checked }
namespace Rows
def none {H : Type} : Left H := { results := [], args := [] }

/-- 'zzlaws_parser_b40.FnPosIsValidAgreesWithFileSetPosition': WHATEVER THE INPUT: true; the input reads as it did. -/
def fnPosIsValidAgreesWithFileSetPositionSpec : ChangeSpec := { name := "fnPosIsValidAgreesWithFileSetPosition", fn := fun _ => fun
  | [d1, d2] => { results := [.lit (.bool true)], args := [d1, d2] }
  | _ => none }
def fnPosIsValidAgreesWithFileSetPositionRow : OpenClaim := { program := "yoedgw", sum := "22ac98afb5a0b17268331c75faa147f7ec596b7098aa0a6d8a4dc33f509d7636", func := "github.com/d5/tengo/v2/zzlaws_parser_b40.FnPosIsValidAgreesWithFileSetPosition", spec := "fnPosIsValidAgreesWithFileSetPosition", unfollowed := true, recurses := true, apart := false }
def FnPosIsValidAgreesWithFileSetPositionSaid : Prop := fnPosIsValidAgreesWithFileSetPositionRow.holds Edgg.pinned (OpenSpec.ofChange fnPosIsValidAgreesWithFileSetPositionSpec)

/-- ITS FALSE NEIGHBOUR: 'it returns false'. Refute it at one input. -/
def fnPosIsValidAgreesWithFileSetPositionWrong : ChangeSpec := { name := "fnPosIsValidAgreesWithFileSetPosition", fn := fun _ => fun
  | [d1, d2] => { results := [.lit (.bool false)], args := [d1, d2] }
  | _ => none }
def FnPosIsValidAgreesWithFileSetPositionWrongFalsely : Prop := fnPosIsValidAgreesWithFileSetPositionRow.holds Edgg.pinned (OpenSpec.ofChange fnPosIsValidAgreesWithFileSetPositionWrong)

/-- 'zzlaws_parser_b40.FnPosIsValidForEveryFileSetPos': WHATEVER THE INPUT: true; the input reads as it did. -/
def fnPosIsValidForEveryFileSetPosSpec : ChangeSpec := { name := "fnPosIsValidForEveryFileSetPos", fn := fun _ => fun
  | [d1, d2, d3, d4] => { results := [.lit (.bool true)], args := [d1, d2, d3, d4] }
  | _ => none }
def fnPosIsValidForEveryFileSetPosRow : OpenClaim := { program := "yoedgw", sum := "22ac98afb5a0b17268331c75faa147f7ec596b7098aa0a6d8a4dc33f509d7636", func := "github.com/d5/tengo/v2/zzlaws_parser_b40.FnPosIsValidForEveryFileSetPos", spec := "fnPosIsValidForEveryFileSetPos", apart := false }
def FnPosIsValidForEveryFileSetPosSaid : Prop := fnPosIsValidForEveryFileSetPosRow.holds Edgg.pinned (OpenSpec.ofChange fnPosIsValidForEveryFileSetPosSpec)

/-- ITS FALSE NEIGHBOUR: 'it returns false'. Refute it at one input. -/
def fnPosIsValidForEveryFileSetPosWrong : ChangeSpec := { name := "fnPosIsValidForEveryFileSetPos", fn := fun _ => fun
  | [d1, d2, d3, d4] => { results := [.lit (.bool false)], args := [d1, d2, d3, d4] }
  | _ => none }
def FnPosIsValidForEveryFileSetPosWrongFalsely : Prop := fnPosIsValidForEveryFileSetPosRow.holds Edgg.pinned (OpenSpec.ofChange fnPosIsValidForEveryFileSetPosWrong)

end Rows
end Go.Proofs.Yoedgw
