/-
  No cell of these rows narrows 'for every input' (looked for: loops, veiled, ifaces, maps, wideKeys, modest, calm, conditions, laid).
  DERIVED. THE GIVEN ROWS OF THIS SEAT. 6 by the template 'for every input the law returns true; each argument reads behind the call as it read before'; 0 by the template 'total and deterministic' (their statements: Qxb6600453aTotals.lean).
  GIVEN WITH THE SEED: the statements are not yours to turn. If you find one false, say at which input.
  Laid BY PROGRAM, IN A SANDBOX (cutbox-rows.mjs): the forced cells as the released guide's own fill.sh prints them over the translation 835bf1b05f585c49… (all of the seat's roots in one cut). By AI agents, Wed Nov 11 2026. No macro, syntax, notation, axiom, sorry.
-/
import Derived.Test.Qxb6600453aChecked
import GoSem.Claim
import GoSem.ClaimJoined
import GoSem.ClaimMapViews
import Derived.JoinedTies
import Derived.KernelRfl
namespace Go.Proofs.Qxb6600453a
/- THE CELL 'sum', in the pinned program and in every row, IS THE sha256 OF THE DUMP (.gsa) THAT Qxb6600453aProg.lean LOADS. Nothing in Lean hashes anything: it is a label: what it is worth is what the hold of that sum in a sandbox is worth. -/
noncomputable def Try.pinned : Pinned := { name := "qxb6600453a", sum := "835bf1b05f585c49f76e6604fb6bae798224437dcc92f87f137aef73959f24f8", checked := Try.checked }
namespace Rows
def none {H : Type} : Left H := { results := [], args := [] }

/-- 'zzlaws_root_b1.FnSubtractIsSetDifference': WHATEVER THE INPUT: true; the input reads as it did. -/
def fnSubtractIsSetDifferenceSpec : ChangeSpec := { name := "fnSubtractIsSetDifference", fn := fun _ => fun
  | [d1, d2, d3] => { results := [.lit (.bool true)], args := [d1, d2, d3] }
  | _ => none }
def fnSubtractIsSetDifferenceRow : OpenClaim := { program := "qxb6600453a", sum := "835bf1b05f585c49f76e6604fb6bae798224437dcc92f87f137aef73959f24f8", func := "example.com/murmurcast/murmurcast/zzlaws_root_b1.FnSubtractIsSetDifference", spec := "fnSubtractIsSetDifference", apart := false }
def FnSubtractIsSetDifferenceSaid : Prop := fnSubtractIsSetDifferenceRow.holds Try.pinned (OpenSpec.ofChange fnSubtractIsSetDifferenceSpec)

/-- ITS FALSE NEIGHBOUR: 'it returns false'. Refute it at one input. -/
def fnSubtractIsSetDifferenceWrong : ChangeSpec := { name := "fnSubtractIsSetDifference", fn := fun _ => fun
  | [d1, d2, d3] => { results := [.lit (.bool false)], args := [d1, d2, d3] }
  | _ => none }
def FnSubtractIsSetDifferenceWrongFalsely : Prop := fnSubtractIsSetDifferenceRow.holds Try.pinned (OpenSpec.ofChange fnSubtractIsSetDifferenceWrong)

/-- 'zzlaws_root_b1.FnSubtractByUnionIsSubtractTwice': WHATEVER THE INPUT: true; the input reads as it did. -/
def fnSubtractByUnionIsSubtractTwiceSpec : ChangeSpec := { name := "fnSubtractByUnionIsSubtractTwice", fn := fun _ => fun
  | [d1, d2, d3] => { results := [.lit (.bool true)], args := [d1, d2, d3] }
  | _ => none }
def fnSubtractByUnionIsSubtractTwiceRow : OpenClaim := { program := "qxb6600453a", sum := "835bf1b05f585c49f76e6604fb6bae798224437dcc92f87f137aef73959f24f8", func := "example.com/murmurcast/murmurcast/zzlaws_root_b1.FnSubtractByUnionIsSubtractTwice", spec := "fnSubtractByUnionIsSubtractTwice", apart := false }
def FnSubtractByUnionIsSubtractTwiceSaid : Prop := fnSubtractByUnionIsSubtractTwiceRow.holds Try.pinned (OpenSpec.ofChange fnSubtractByUnionIsSubtractTwiceSpec)

/-- ITS FALSE NEIGHBOUR: 'it returns false'. Refute it at one input. -/
def fnSubtractByUnionIsSubtractTwiceWrong : ChangeSpec := { name := "fnSubtractByUnionIsSubtractTwice", fn := fun _ => fun
  | [d1, d2, d3] => { results := [.lit (.bool false)], args := [d1, d2, d3] }
  | _ => none }
def FnSubtractByUnionIsSubtractTwiceWrongFalsely : Prop := fnSubtractByUnionIsSubtractTwiceRow.holds Try.pinned (OpenSpec.ofChange fnSubtractByUnionIsSubtractTwiceWrong)

/-- 'zzlaws_root_b1.FnSubtractRoundTripsWithUnion': WHATEVER THE INPUT: true; the input reads as it did. -/
def fnSubtractRoundTripsWithUnionSpec : ChangeSpec := { name := "fnSubtractRoundTripsWithUnion", fn := fun _ => fun
  | [d1, d2] => { results := [.lit (.bool true)], args := [d1, d2] }
  | _ => none }
def fnSubtractRoundTripsWithUnionRow : OpenClaim := { program := "qxb6600453a", sum := "835bf1b05f585c49f76e6604fb6bae798224437dcc92f87f137aef73959f24f8", func := "example.com/murmurcast/murmurcast/zzlaws_root_b1.FnSubtractRoundTripsWithUnion", spec := "fnSubtractRoundTripsWithUnion", apart := false }
def FnSubtractRoundTripsWithUnionSaid : Prop := fnSubtractRoundTripsWithUnionRow.holds Try.pinned (OpenSpec.ofChange fnSubtractRoundTripsWithUnionSpec)

/-- ITS FALSE NEIGHBOUR: 'it returns false'. Refute it at one input. -/
def fnSubtractRoundTripsWithUnionWrong : ChangeSpec := { name := "fnSubtractRoundTripsWithUnion", fn := fun _ => fun
  | [d1, d2] => { results := [.lit (.bool false)], args := [d1, d2] }
  | _ => none }
def FnSubtractRoundTripsWithUnionWrongFalsely : Prop := fnSubtractRoundTripsWithUnionRow.holds Try.pinned (OpenSpec.ofChange fnSubtractRoundTripsWithUnionWrong)

/-- 'zzlaws_root_b1.FnUnionIsSetUnion': WHATEVER THE INPUT: true; the input reads as it did. -/
def fnUnionIsSetUnionSpec : ChangeSpec := { name := "fnUnionIsSetUnion", fn := fun _ => fun
  | [d1, d2, d3] => { results := [.lit (.bool true)], args := [d1, d2, d3] }
  | _ => none }
def fnUnionIsSetUnionRow : OpenClaim := { program := "qxb6600453a", sum := "835bf1b05f585c49f76e6604fb6bae798224437dcc92f87f137aef73959f24f8", func := "example.com/murmurcast/murmurcast/zzlaws_root_b1.FnUnionIsSetUnion", spec := "fnUnionIsSetUnion", apart := false }
def FnUnionIsSetUnionSaid : Prop := fnUnionIsSetUnionRow.holds Try.pinned (OpenSpec.ofChange fnUnionIsSetUnionSpec)

/-- ITS FALSE NEIGHBOUR: 'it returns false'. Refute it at one input. -/
def fnUnionIsSetUnionWrong : ChangeSpec := { name := "fnUnionIsSetUnion", fn := fun _ => fun
  | [d1, d2, d3] => { results := [.lit (.bool false)], args := [d1, d2, d3] }
  | _ => none }
def FnUnionIsSetUnionWrongFalsely : Prop := fnUnionIsSetUnionRow.holds Try.pinned (OpenSpec.ofChange fnUnionIsSetUnionWrong)

/-- 'zzlaws_root_b1.FnUnionCommutesAndAssociates': WHATEVER THE INPUT: true; the input reads as it did. -/
def fnUnionCommutesAndAssociatesSpec : ChangeSpec := { name := "fnUnionCommutesAndAssociates", fn := fun _ => fun
  | [d1, d2, d3] => { results := [.lit (.bool true)], args := [d1, d2, d3] }
  | _ => none }
def fnUnionCommutesAndAssociatesRow : OpenClaim := { program := "qxb6600453a", sum := "835bf1b05f585c49f76e6604fb6bae798224437dcc92f87f137aef73959f24f8", func := "example.com/murmurcast/murmurcast/zzlaws_root_b1.FnUnionCommutesAndAssociates", spec := "fnUnionCommutesAndAssociates", apart := false }
def FnUnionCommutesAndAssociatesSaid : Prop := fnUnionCommutesAndAssociatesRow.holds Try.pinned (OpenSpec.ofChange fnUnionCommutesAndAssociatesSpec)

/-- ITS FALSE NEIGHBOUR: 'it returns false'. Refute it at one input. -/
def fnUnionCommutesAndAssociatesWrong : ChangeSpec := { name := "fnUnionCommutesAndAssociates", fn := fun _ => fun
  | [d1, d2, d3] => { results := [.lit (.bool false)], args := [d1, d2, d3] }
  | _ => none }
def FnUnionCommutesAndAssociatesWrongFalsely : Prop := fnUnionCommutesAndAssociatesRow.holds Try.pinned (OpenSpec.ofChange fnUnionCommutesAndAssociatesWrong)

/-- 'zzlaws_root_b1.FnUnionFixesItsOwnAnswers': WHATEVER THE INPUT: true; the input reads as it did. -/
def fnUnionFixesItsOwnAnswersSpec : ChangeSpec := { name := "fnUnionFixesItsOwnAnswers", fn := fun _ => fun
  | [d1, d2] => { results := [.lit (.bool true)], args := [d1, d2] }
  | _ => none }
def fnUnionFixesItsOwnAnswersRow : OpenClaim := { program := "qxb6600453a", sum := "835bf1b05f585c49f76e6604fb6bae798224437dcc92f87f137aef73959f24f8", func := "example.com/murmurcast/murmurcast/zzlaws_root_b1.FnUnionFixesItsOwnAnswers", spec := "fnUnionFixesItsOwnAnswers", apart := false }
def FnUnionFixesItsOwnAnswersSaid : Prop := fnUnionFixesItsOwnAnswersRow.holds Try.pinned (OpenSpec.ofChange fnUnionFixesItsOwnAnswersSpec)

/-- ITS FALSE NEIGHBOUR: 'it returns false'. Refute it at one input. -/
def fnUnionFixesItsOwnAnswersWrong : ChangeSpec := { name := "fnUnionFixesItsOwnAnswers", fn := fun _ => fun
  | [d1, d2] => { results := [.lit (.bool false)], args := [d1, d2] }
  | _ => none }
def FnUnionFixesItsOwnAnswersWrongFalsely : Prop := fnUnionFixesItsOwnAnswersRow.holds Try.pinned (OpenSpec.ofChange fnUnionFixesItsOwnAnswersWrong)

end Rows
end Go.Proofs.Qxb6600453a
