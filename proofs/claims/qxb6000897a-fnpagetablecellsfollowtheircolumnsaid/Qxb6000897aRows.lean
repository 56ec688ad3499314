/-
  No cell of these rows narrows 'for every input' (looked for: loops, veiled, ifaces, maps, wideKeys, modest, calm, conditions, laid).
  DERIVED. THE GIVEN ROWS OF THIS SEAT. 5 by the template 'for every input the law returns true; each argument reads behind the call as it read before'; 0 by the template 'total and deterministic' (their statements: Qxb6000897aTotals.lean).
  GIVEN WITH THE SEED: the statements are not yours to turn. If you find one false, say at which input.
  Laid BY PROGRAM, IN A SANDBOX (cutbox-rows.mjs): the forced cells as the released guide's own fill.sh prints them over the translation 1c2571f2975fd2a6… (all of the seat's roots in one cut). By AI agents, Wed Nov 11 2026. No macro, syntax, notation, axiom, sorry.
-/
import Derived.Test.Qxb6000897aChecked
import GoSem.Claim
import GoSem.ClaimJoined
import GoSem.ClaimMapViews
import Derived.JoinedTies
import Derived.KernelRfl
namespace Go.Proofs.Qxb6000897a
/- THE CELL 'sum', in the pinned program and in every row, IS THE sha256 OF THE DUMP (.gsa) THAT Qxb6000897aProg.lean LOADS. Nothing in Lean hashes anything: it is a label: what it is worth is what the hold of that sum in a sandbox is worth. -/
noncomputable def Try.pinned : Pinned := { name := "qxb6000897a", sum := "1c2571f2975fd2a6bf2e61688b9416f75834b57cc050a230a63b270a20a20c7e", checked := Try.checked }
namespace Rows
def none {H : Type} : Left H := { results := [], args := [] }

/-- 'zzlaws_cmd_b1.FnAppendSpacesSpec': WHATEVER THE INPUT: true; the input reads as it did. -/
def fnAppendSpacesSpecSpec : ChangeSpec := { name := "fnAppendSpacesSpec", fn := fun _ => fun
  | [d1, d2] => { results := [.lit (.bool true)], args := [d1, d2] }
  | _ => none }
def fnAppendSpacesSpecRow : OpenClaim := { program := "qxb6000897a", sum := "1c2571f2975fd2a6bf2e61688b9416f75834b57cc050a230a63b270a20a20c7e", func := "example.com/vestbook/vestbook/zzlaws_cmd_b1.FnAppendSpacesSpec", spec := "fnAppendSpacesSpec", apart := false }
def FnAppendSpacesSpecSaid : Prop := fnAppendSpacesSpecRow.holds Try.pinned (OpenSpec.ofChange fnAppendSpacesSpecSpec)

/-- ITS FALSE NEIGHBOUR: 'it returns false'. Refute it at one input. -/
def fnAppendSpacesSpecWrong : ChangeSpec := { name := "fnAppendSpacesSpec", fn := fun _ => fun
  | [d1, d2] => { results := [.lit (.bool false)], args := [d1, d2] }
  | _ => none }
def FnAppendSpacesSpecWrongFalsely : Prop := fnAppendSpacesSpecRow.holds Try.pinned (OpenSpec.ofChange fnAppendSpacesSpecWrong)

/-- 'zzlaws_cmd_b1.FnAppendSpacesAdditive': WHATEVER THE INPUT: true; the input reads as it did. -/
def fnAppendSpacesAdditiveSpec : ChangeSpec := { name := "fnAppendSpacesAdditive", fn := fun _ => fun
  | [d1, d2, d3] => { results := [.lit (.bool true)], args := [d1, d2, d3] }
  | _ => none }
def fnAppendSpacesAdditiveRow : OpenClaim := { program := "qxb6000897a", sum := "1c2571f2975fd2a6bf2e61688b9416f75834b57cc050a230a63b270a20a20c7e", func := "example.com/vestbook/vestbook/zzlaws_cmd_b1.FnAppendSpacesAdditive", spec := "fnAppendSpacesAdditive", apart := false }
def FnAppendSpacesAdditiveSaid : Prop := fnAppendSpacesAdditiveRow.holds Try.pinned (OpenSpec.ofChange fnAppendSpacesAdditiveSpec)

/-- ITS FALSE NEIGHBOUR: 'it returns false'. Refute it at one input. -/
def fnAppendSpacesAdditiveWrong : ChangeSpec := { name := "fnAppendSpacesAdditive", fn := fun _ => fun
  | [d1, d2, d3] => { results := [.lit (.bool false)], args := [d1, d2, d3] }
  | _ => none }
def FnAppendSpacesAdditiveWrongFalsely : Prop := fnAppendSpacesAdditiveRow.holds Try.pinned (OpenSpec.ofChange fnAppendSpacesAdditiveWrong)

/-- 'zzlaws_cmd_b1.FnPageTableKeepsEveryText': WHATEVER THE INPUT: true; the input reads as it did. -/
def fnPageTableKeepsEveryTextSpec : ChangeSpec := { name := "fnPageTableKeepsEveryText", fn := fun _ => fun
  | [d1, d2, d3, d4, d5] => { results := [.lit (.bool true)], args := [d1, d2, d3, d4, d5] }
  | _ => none }
def fnPageTableKeepsEveryTextRow : OpenClaim := { program := "qxb6000897a", sum := "1c2571f2975fd2a6bf2e61688b9416f75834b57cc050a230a63b270a20a20c7e", func := "example.com/vestbook/vestbook/zzlaws_cmd_b1.FnPageTableKeepsEveryText", spec := "fnPageTableKeepsEveryText", apart := false }
def FnPageTableKeepsEveryTextSaid : Prop := fnPageTableKeepsEveryTextRow.holds Try.pinned (OpenSpec.ofChange fnPageTableKeepsEveryTextSpec)

/-- ITS FALSE NEIGHBOUR: 'it returns false'. Refute it at one input. -/
def fnPageTableKeepsEveryTextWrong : ChangeSpec := { name := "fnPageTableKeepsEveryText", fn := fun _ => fun
  | [d1, d2, d3, d4, d5] => { results := [.lit (.bool false)], args := [d1, d2, d3, d4, d5] }
  | _ => none }
def FnPageTableKeepsEveryTextWrongFalsely : Prop := fnPageTableKeepsEveryTextRow.holds Try.pinned (OpenSpec.ofChange fnPageTableKeepsEveryTextWrong)

/-- 'zzlaws_cmd_b1.FnPageTableCellsFollowTheirColumn': WHATEVER THE INPUT: true; the input reads as it did. -/
def fnPageTableCellsFollowTheirColumnSpec : ChangeSpec := { name := "fnPageTableCellsFollowTheirColumn", fn := fun _ => fun
  | [d1, d2, d3, d4, d5] => { results := [.lit (.bool true)], args := [d1, d2, d3, d4, d5] }
  | _ => none }
def fnPageTableCellsFollowTheirColumnRow : OpenClaim := { program := "qxb6000897a", sum := "1c2571f2975fd2a6bf2e61688b9416f75834b57cc050a230a63b270a20a20c7e", func := "example.com/vestbook/vestbook/zzlaws_cmd_b1.FnPageTableCellsFollowTheirColumn", spec := "fnPageTableCellsFollowTheirColumn", apart := false }
def FnPageTableCellsFollowTheirColumnSaid : Prop := fnPageTableCellsFollowTheirColumnRow.holds Try.pinned (OpenSpec.ofChange fnPageTableCellsFollowTheirColumnSpec)

/-- ITS FALSE NEIGHBOUR: 'it returns false'. Refute it at one input. -/
def fnPageTableCellsFollowTheirColumnWrong : ChangeSpec := { name := "fnPageTableCellsFollowTheirColumn", fn := fun _ => fun
  | [d1, d2, d3, d4, d5] => { results := [.lit (.bool false)], args := [d1, d2, d3, d4, d5] }
  | _ => none }
def FnPageTableCellsFollowTheirColumnWrongFalsely : Prop := fnPageTableCellsFollowTheirColumnRow.holds Try.pinned (OpenSpec.ofChange fnPageTableCellsFollowTheirColumnWrong)

/-- 'zzlaws_cmd_b1.FnPageTableIgnoresCSVNames': WHATEVER THE INPUT: true; the input reads as it did. -/
def fnPageTableIgnoresCSVNamesSpec : ChangeSpec := { name := "fnPageTableIgnoresCSVNames", fn := fun _ => fun
  | [d1, d2, d3, d4, d5, d6] => { results := [.lit (.bool true)], args := [d1, d2, d3, d4, d5, d6] }
  | _ => none }
def fnPageTableIgnoresCSVNamesRow : OpenClaim := { program := "qxb6000897a", sum := "1c2571f2975fd2a6bf2e61688b9416f75834b57cc050a230a63b270a20a20c7e", func := "example.com/vestbook/vestbook/zzlaws_cmd_b1.FnPageTableIgnoresCSVNames", spec := "fnPageTableIgnoresCSVNames", apart := false }
def FnPageTableIgnoresCSVNamesSaid : Prop := fnPageTableIgnoresCSVNamesRow.holds Try.pinned (OpenSpec.ofChange fnPageTableIgnoresCSVNamesSpec)

/-- ITS FALSE NEIGHBOUR: 'it returns false'. Refute it at one input. -/
def fnPageTableIgnoresCSVNamesWrong : ChangeSpec := { name := "fnPageTableIgnoresCSVNames", fn := fun _ => fun
  | [d1, d2, d3, d4, d5, d6] => { results := [.lit (.bool false)], args := [d1, d2, d3, d4, d5, d6] }
  | _ => none }
def FnPageTableIgnoresCSVNamesWrongFalsely : Prop := fnPageTableIgnoresCSVNamesRow.holds Try.pinned (OpenSpec.ofChange fnPageTableIgnoresCSVNamesWrong)

end Rows
end Go.Proofs.Qxb6000897a
