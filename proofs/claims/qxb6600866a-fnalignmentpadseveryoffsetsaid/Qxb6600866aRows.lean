/-
  No cell of these rows narrows 'for every input' (looked for: loops, veiled, ifaces, maps, wideKeys, modest, calm, conditions, laid).
  DERIVED. THE GIVEN ROWS OF THIS SEAT. 1 by the template 'for every input the law returns true; each argument reads behind the call as it read before'; 0 by the template 'total and deterministic' (their statements: Qxb6600866aTotals.lean).
  GIVEN WITH THE SEED: the statements are not yours to turn. If you find one false, say at which input.
  Laid BY PROGRAM, IN A SANDBOX (cutbox-rows.mjs): the forced cells as the released guide's own fill.sh prints them over the translation 73d43523fbc0460c… (all of the seat's roots in one cut). By AI agents, Wed Nov 11 2026. No macro, syntax, notation, axiom, sorry.
-/
import Derived.Test.Qxb6600866aChecked
import GoSem.Claim
import GoSem.ClaimJoined
import GoSem.ClaimMapViews
import Derived.JoinedTies
import Derived.KernelRfl
namespace Go.Proofs.Qxb6600866a
/- THE CELL 'sum', in the pinned program and in every row, IS THE sha256 OF THE DUMP (.gsa) THAT Qxb6600866aProg.lean LOADS. Nothing in Lean hashes anything: it is a label: what it is worth is what the hold of that sum in a sandbox is worth. -/
noncomputable def Try.pinned : Pinned := { name := "qxb6600866a", sum := "73d43523fbc0460cf91f292c8fd4e623ff3704ec93140aeb6de61358504b7113", checked := Try.checked }
namespace Rows
def none {H : Type} : Left H := { results := [], args := [] }

/-- 'zzlaws_systemd_b1.FnAlignmentPadsEveryOffset': WHATEVER THE INPUT: true; the input reads as it did. -/
def fnAlignmentPadsEveryOffsetSpec : ChangeSpec := { name := "fnAlignmentPadsEveryOffset", fn := fun _ => fun
  | [d1, d2] => { results := [.lit (.bool true)], args := [d1, d2] }
  | _ => none }
def fnAlignmentPadsEveryOffsetRow : OpenClaim := { program := "qxb6600866a", sum := "73d43523fbc0460cf91f292c8fd4e623ff3704ec93140aeb6de61358504b7113", func := "example.com/furrow/furrow/zzlaws_systemd_b1.FnAlignmentPadsEveryOffset", spec := "fnAlignmentPadsEveryOffset", apart := false }
def FnAlignmentPadsEveryOffsetSaid : Prop := fnAlignmentPadsEveryOffsetRow.holds Try.pinned (OpenSpec.ofChange fnAlignmentPadsEveryOffsetSpec)

/-- ITS FALSE NEIGHBOUR: 'it returns false'. Refute it at one input. -/
def fnAlignmentPadsEveryOffsetWrong : ChangeSpec := { name := "fnAlignmentPadsEveryOffset", fn := fun _ => fun
  | [d1, d2] => { results := [.lit (.bool false)], args := [d1, d2] }
  | _ => none }
def FnAlignmentPadsEveryOffsetWrongFalsely : Prop := fnAlignmentPadsEveryOffsetRow.holds Try.pinned (OpenSpec.ofChange fnAlignmentPadsEveryOffsetWrong)

end Rows
end Go.Proofs.Qxb6600866a
