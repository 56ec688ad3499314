/-
  No cell of these rows narrows 'for every input' (looked for: loops, veiled, ifaces, maps, wideKeys, modest, calm, conditions, laid).
  DERIVED. THE GIVEN ROWS OF THIS SEAT. 3 by the template 'for every input the law returns true; each argument reads behind the call as it read before'; 0 by the template 'total and deterministic' (their statements: Qxb6001389aTotals.lean).
  GIVEN WITH THE SEED: the statements are not yours to turn. If you find one false, say at which input.
  Laid BY PROGRAM, IN A SANDBOX (cutbox-rows.mjs): the forced cells as the released guide's own fill.sh prints them over the translation 55e6e72f84e3e525… (all of the seat's roots in one cut). By AI agents, Wed Nov 11 2026. No macro, syntax, notation, axiom, sorry.
-/
import Derived.Test.Qxb6001389aChecked
import GoSem.Claim
import GoSem.ClaimJoined
import GoSem.ClaimMapViews
import Derived.JoinedTies
import Derived.KernelRfl
namespace Go.Proofs.Qxb6001389a
/- THE CELL 'sum', in the pinned program and in every row, IS THE sha256 OF THE DUMP (.gsa) THAT Qxb6001389aProg.lean LOADS. Nothing in Lean hashes anything: it is a label: what it is worth is what the hold of that sum in a sandbox is worth. -/
noncomputable def Try.pinned : Pinned := { name := "qxb6001389a", sum := "55e6e72f84e3e525d1bbe915e3c03ec61526ea5d9f92a0f7115b263b8655a2ea", checked := Try.checked }
namespace Rows
def none {H : Type} : Left H := { results := [], args := [] }

/-- 'zzlaws_internal_store_b1.FnPlacesByNIMLastEntryWins': WHATEVER THE INPUT: true; the input reads as it did. -/
def fnPlacesByNIMLastEntryWinsSpec : ChangeSpec := { name := "fnPlacesByNIMLastEntryWins", fn := fun _ => fun
  | [d1, d2] => { results := [.lit (.bool true)], args := [d1, d2] }
  | _ => none }
def fnPlacesByNIMLastEntryWinsRow : OpenClaim := { program := "qxb6001389a", sum := "55e6e72f84e3e525d1bbe915e3c03ec61526ea5d9f92a0f7115b263b8655a2ea", func := "example.com/tallyhall/tallyhall/zzlaws_internal_store_b1.FnPlacesByNIMLastEntryWins", spec := "fnPlacesByNIMLastEntryWins", apart := false }
def FnPlacesByNIMLastEntryWinsSaid : Prop := fnPlacesByNIMLastEntryWinsRow.holds Try.pinned (OpenSpec.ofChange fnPlacesByNIMLastEntryWinsSpec)

/-- ITS FALSE NEIGHBOUR: 'it returns false'. Refute it at one input. -/
def fnPlacesByNIMLastEntryWinsWrong : ChangeSpec := { name := "fnPlacesByNIMLastEntryWins", fn := fun _ => fun
  | [d1, d2] => { results := [.lit (.bool false)], args := [d1, d2] }
  | _ => none }
def FnPlacesByNIMLastEntryWinsWrongFalsely : Prop := fnPlacesByNIMLastEntryWinsRow.holds Try.pinned (OpenSpec.ofChange fnPlacesByNIMLastEntryWinsWrong)

/-- 'zzlaws_internal_store_b1.FnPlacesByNIMInvertsDistinct': WHATEVER THE INPUT: true; the input reads as it did. -/
def fnPlacesByNIMInvertsDistinctSpec : ChangeSpec := { name := "fnPlacesByNIMInvertsDistinct", fn := fun _ => fun
  | [d1, d2] => { results := [.lit (.bool true)], args := [d1, d2] }
  | _ => none }
def fnPlacesByNIMInvertsDistinctRow : OpenClaim := { program := "qxb6001389a", sum := "55e6e72f84e3e525d1bbe915e3c03ec61526ea5d9f92a0f7115b263b8655a2ea", func := "example.com/tallyhall/tallyhall/zzlaws_internal_store_b1.FnPlacesByNIMInvertsDistinct", spec := "fnPlacesByNIMInvertsDistinct", apart := false }
def FnPlacesByNIMInvertsDistinctSaid : Prop := fnPlacesByNIMInvertsDistinctRow.holds Try.pinned (OpenSpec.ofChange fnPlacesByNIMInvertsDistinctSpec)

/-- ITS FALSE NEIGHBOUR: 'it returns false'. Refute it at one input. -/
def fnPlacesByNIMInvertsDistinctWrong : ChangeSpec := { name := "fnPlacesByNIMInvertsDistinct", fn := fun _ => fun
  | [d1, d2] => { results := [.lit (.bool false)], args := [d1, d2] }
  | _ => none }
def FnPlacesByNIMInvertsDistinctWrongFalsely : Prop := fnPlacesByNIMInvertsDistinctRow.holds Try.pinned (OpenSpec.ofChange fnPlacesByNIMInvertsDistinctWrong)

/-- 'zzlaws_internal_store_b1.FnPlacesByNIMConcatOverrides': WHATEVER THE INPUT: true; the input reads as it did. -/
def fnPlacesByNIMConcatOverridesSpec : ChangeSpec := { name := "fnPlacesByNIMConcatOverrides", fn := fun _ => fun
  | [d1, d2, d3] => { results := [.lit (.bool true)], args := [d1, d2, d3] }
  | _ => none }
def fnPlacesByNIMConcatOverridesRow : OpenClaim := { program := "qxb6001389a", sum := "55e6e72f84e3e525d1bbe915e3c03ec61526ea5d9f92a0f7115b263b8655a2ea", func := "example.com/tallyhall/tallyhall/zzlaws_internal_store_b1.FnPlacesByNIMConcatOverrides", spec := "fnPlacesByNIMConcatOverrides", apart := false }
def FnPlacesByNIMConcatOverridesSaid : Prop := fnPlacesByNIMConcatOverridesRow.holds Try.pinned (OpenSpec.ofChange fnPlacesByNIMConcatOverridesSpec)

/-- ITS FALSE NEIGHBOUR: 'it returns false'. Refute it at one input. -/
def fnPlacesByNIMConcatOverridesWrong : ChangeSpec := { name := "fnPlacesByNIMConcatOverrides", fn := fun _ => fun
  | [d1, d2, d3] => { results := [.lit (.bool false)], args := [d1, d2, d3] }
  | _ => none }
def FnPlacesByNIMConcatOverridesWrongFalsely : Prop := fnPlacesByNIMConcatOverridesRow.holds Try.pinned (OpenSpec.ofChange fnPlacesByNIMConcatOverridesWrong)

end Rows
end Go.Proofs.Qxb6001389a
