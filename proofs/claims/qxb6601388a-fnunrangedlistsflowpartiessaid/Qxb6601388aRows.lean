/-
  NARROWER THAN 'FOR EVERY INPUT', by the rows' own cells (each row's printed sentence says how): FnStackMatchesByRecursion: maps · FnStackJoinsMatches: maps · FnStackWideningKeepsMatch: maps.
  DERIVED. THE GIVEN ROWS OF THIS SEAT. 5 by the template 'for every input the law returns true; each argument reads behind the call as it read before'; 0 by the template 'total and deterministic' (their statements: Qxb6601388aTotals.lean).
  GIVEN WITH THE SEED: the statements are not yours to turn. If you find one false, say at which input.
  Laid BY PROGRAM, IN A SANDBOX (cutbox-rows.mjs): the forced cells as the released guide's own fill.sh prints them over the translation 7946fa5a079598f6… (all of the seat's roots in one cut). By AI agents, Wed Nov 11 2026. No macro, syntax, notation, axiom, sorry.
-/
import Derived.Test.Qxb6601388aChecked
import GoSem.Claim
import GoSem.ClaimJoined
import GoSem.ClaimMapViews
import Derived.JoinedTies
import Derived.KernelRfl
namespace Go.Proofs.Qxb6601388a
/- THE CELL 'sum', in the pinned program and in every row, IS THE sha256 OF THE DUMP (.gsa) THAT Qxb6601388aProg.lean LOADS. Nothing in Lean hashes anything: it is a label: what it is worth is what the hold of that sum in a sandbox is worth. -/
noncomputable def Try.pinned : Pinned := { name := "qxb6601388a", sum := "7946fa5a079598f6db33211805c0dc79c692872437bba1024f3a516316a192d4", checked := Try.checked }
namespace Rows
def none {H : Type} : Left H := { results := [], args := [] }

/-- 'zzlaws_pkg_policy_b1.FnStackMatchesByRecursion': WHATEVER THE INPUT: true; the input reads as it did. -/
def fnStackMatchesByRecursionSpec : ChangeSpec := { name := "fnStackMatchesByRecursion", fn := fun _ => fun
  | [d1, d2, d3, d4] => { results := [.lit (.bool true)], args := [d1, d2, d3, d4] }
  | _ => none }
def fnStackMatchesByRecursionRow : OpenClaim := { program := "qxb6601388a", sum := "7946fa5a079598f6db33211805c0dc79c692872437bba1024f3a516316a192d4", func := "example.com/kumquat/kumquat/zzlaws_pkg_policy_b1.FnStackMatchesByRecursion", spec := "fnStackMatchesByRecursion", recurses := true, maps := true, apart := false }
def FnStackMatchesByRecursionSaid : Prop := fnStackMatchesByRecursionRow.holds Try.pinned (OpenSpec.ofChange fnStackMatchesByRecursionSpec)

/-- ITS FALSE NEIGHBOUR: 'it returns false'. Refute it at one input. -/
def fnStackMatchesByRecursionWrong : ChangeSpec := { name := "fnStackMatchesByRecursion", fn := fun _ => fun
  | [d1, d2, d3, d4] => { results := [.lit (.bool false)], args := [d1, d2, d3, d4] }
  | _ => none }
def FnStackMatchesByRecursionWrongFalsely : Prop := fnStackMatchesByRecursionRow.holds Try.pinned (OpenSpec.ofChange fnStackMatchesByRecursionWrong)

/-- 'zzlaws_pkg_policy_b1.FnStackJoinsMatches': WHATEVER THE INPUT: true; the input reads as it did. -/
def fnStackJoinsMatchesSpec : ChangeSpec := { name := "fnStackJoinsMatches", fn := fun _ => fun
  | [d1, d2, d3, d4, d5, d6] => { results := [.lit (.bool true)], args := [d1, d2, d3, d4, d5, d6] }
  | _ => none }
def fnStackJoinsMatchesRow : OpenClaim := { program := "qxb6601388a", sum := "7946fa5a079598f6db33211805c0dc79c692872437bba1024f3a516316a192d4", func := "example.com/kumquat/kumquat/zzlaws_pkg_policy_b1.FnStackJoinsMatches", spec := "fnStackJoinsMatches", maps := true, apart := false }
def FnStackJoinsMatchesSaid : Prop := fnStackJoinsMatchesRow.holds Try.pinned (OpenSpec.ofChange fnStackJoinsMatchesSpec)

/-- ITS FALSE NEIGHBOUR: 'it returns false'. Refute it at one input. -/
def fnStackJoinsMatchesWrong : ChangeSpec := { name := "fnStackJoinsMatches", fn := fun _ => fun
  | [d1, d2, d3, d4, d5, d6] => { results := [.lit (.bool false)], args := [d1, d2, d3, d4, d5, d6] }
  | _ => none }
def FnStackJoinsMatchesWrongFalsely : Prop := fnStackJoinsMatchesRow.holds Try.pinned (OpenSpec.ofChange fnStackJoinsMatchesWrong)

/-- 'zzlaws_pkg_policy_b1.FnStackWideningKeepsMatch': WHATEVER THE INPUT: true; the input reads as it did. -/
def fnStackWideningKeepsMatchSpec : ChangeSpec := { name := "fnStackWideningKeepsMatch", fn := fun _ => fun
  | [d1, d2, d3, d4, d5] => { results := [.lit (.bool true)], args := [d1, d2, d3, d4, d5] }
  | _ => none }
def fnStackWideningKeepsMatchRow : OpenClaim := { program := "qxb6601388a", sum := "7946fa5a079598f6db33211805c0dc79c692872437bba1024f3a516316a192d4", func := "example.com/kumquat/kumquat/zzlaws_pkg_policy_b1.FnStackWideningKeepsMatch", spec := "fnStackWideningKeepsMatch", maps := true, apart := false }
def FnStackWideningKeepsMatchSaid : Prop := fnStackWideningKeepsMatchRow.holds Try.pinned (OpenSpec.ofChange fnStackWideningKeepsMatchSpec)

/-- ITS FALSE NEIGHBOUR: 'it returns false'. Refute it at one input. -/
def fnStackWideningKeepsMatchWrong : ChangeSpec := { name := "fnStackWideningKeepsMatch", fn := fun _ => fun
  | [d1, d2, d3, d4, d5] => { results := [.lit (.bool false)], args := [d1, d2, d3, d4, d5] }
  | _ => none }
def FnStackWideningKeepsMatchWrongFalsely : Prop := fnStackWideningKeepsMatchRow.holds Try.pinned (OpenSpec.ofChange fnStackWideningKeepsMatchWrong)

/-- 'zzlaws_pkg_policy_b1.FnUnrangedListsFlowParties': WHATEVER THE INPUT: true; the input reads as it did. -/
def fnUnrangedListsFlowPartiesSpec : ChangeSpec := { name := "fnUnrangedListsFlowParties", fn := fun _ => fun
  | [d1, d2, d3, d4] => { results := [.lit (.bool true)], args := [d1, d2, d3, d4] }
  | _ => none }
def fnUnrangedListsFlowPartiesRow : OpenClaim := { program := "qxb6601388a", sum := "7946fa5a079598f6db33211805c0dc79c692872437bba1024f3a516316a192d4", func := "example.com/kumquat/kumquat/zzlaws_pkg_policy_b1.FnUnrangedListsFlowParties", spec := "fnUnrangedListsFlowParties", apart := false }
def FnUnrangedListsFlowPartiesSaid : Prop := fnUnrangedListsFlowPartiesRow.holds Try.pinned (OpenSpec.ofChange fnUnrangedListsFlowPartiesSpec)

/-- ITS FALSE NEIGHBOUR: 'it returns false'. Refute it at one input. -/
def fnUnrangedListsFlowPartiesWrong : ChangeSpec := { name := "fnUnrangedListsFlowParties", fn := fun _ => fun
  | [d1, d2, d3, d4] => { results := [.lit (.bool false)], args := [d1, d2, d3, d4] }
  | _ => none }
def FnUnrangedListsFlowPartiesWrongFalsely : Prop := fnUnrangedListsFlowPartiesRow.holds Try.pinned (OpenSpec.ofChange fnUnrangedListsFlowPartiesWrong)

/-- 'zzlaws_pkg_policy_b1.FnUnrangedIgnoresEdgeOrder': WHATEVER THE INPUT: true; the input reads as it did. -/
def fnUnrangedIgnoresEdgeOrderSpec : ChangeSpec := { name := "fnUnrangedIgnoresEdgeOrder", fn := fun _ => fun
  | [d1, d2, d3, d4] => { results := [.lit (.bool true)], args := [d1, d2, d3, d4] }
  | _ => none }
def fnUnrangedIgnoresEdgeOrderRow : OpenClaim := { program := "qxb6601388a", sum := "7946fa5a079598f6db33211805c0dc79c692872437bba1024f3a516316a192d4", func := "example.com/kumquat/kumquat/zzlaws_pkg_policy_b1.FnUnrangedIgnoresEdgeOrder", spec := "fnUnrangedIgnoresEdgeOrder", apart := false }
def FnUnrangedIgnoresEdgeOrderSaid : Prop := fnUnrangedIgnoresEdgeOrderRow.holds Try.pinned (OpenSpec.ofChange fnUnrangedIgnoresEdgeOrderSpec)

/-- ITS FALSE NEIGHBOUR: 'it returns false'. Refute it at one input. -/
def fnUnrangedIgnoresEdgeOrderWrong : ChangeSpec := { name := "fnUnrangedIgnoresEdgeOrder", fn := fun _ => fun
  | [d1, d2, d3, d4] => { results := [.lit (.bool false)], args := [d1, d2, d3, d4] }
  | _ => none }
def FnUnrangedIgnoresEdgeOrderWrongFalsely : Prop := fnUnrangedIgnoresEdgeOrderRow.holds Try.pinned (OpenSpec.ofChange fnUnrangedIgnoresEdgeOrderWrong)

end Rows
end Go.Proofs.Qxb6601388a
