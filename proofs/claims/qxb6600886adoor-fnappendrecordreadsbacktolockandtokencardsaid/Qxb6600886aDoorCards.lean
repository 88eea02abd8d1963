/-
  DERIVED. GIVEN WITH THE SEED: THE CARDS: each row of Qxb6600886aDoorRows.lean that lists a variable, with what it lists TIED to the program's text (the seventh form; the later family's looks); each row that meets fmt, with fmt's text TOLD by the authors' own Lean function (tested against real Go, not proved from fmt's source: count such statements apart). THE CARD IS WHAT COUNTS. Prove the row's statement (the work); the ties are given (Qxb6600886aDoorTie.lean); close each card by the builder's one call (the guide's Derived/Test/ToyasCard.lean, 'card_holds'). Laid BY PROGRAM, IN A SANDBOX (cutbox-door.mjs). By AI agents, Wed Nov 11 2026. No macro, syntax, notation, axiom, sorry.
-/
import Derived.Test.Qxb6600886aDoorRows
import GoSem.ClaimSeven
namespace Go.Proofs.Qxb6600886aDoor
namespace Rows

/-- THE TIED CARD OF 'zzlaws_fence_b1.FnAppendRecordReadsBackToLockAndToken'. -/
def fnAppendRecordReadsBackToLockAndTokenCard : Claim7 := { stood := { row := fnAppendRecordReadsBackToLockAndTokenRow, standIns := [], harness := (true, "708ac2e34f5cc82eddef92f497d5a6bd4e23eaabd15254fac8b4045df7cfe373"), looks := false }, kinds := [], alts := [], laidByText := true, laidKinds := [.data, .data, .data], laidTests := true, laidLooks := .later }
def FnAppendRecordReadsBackToLockAndTokenCardSaid : Prop := Claim7.holds Tryd.pinned (.plain (OpenSpec.ofChange fnAppendRecordReadsBackToLockAndTokenSpec)) fnAppendRecordReadsBackToLockAndTokenCard

/-- THE TIED CARD OF 'zzlaws_fence_b1.FnRecordSizeIsLengthAppendRecordAdds'. -/
def fnRecordSizeIsLengthAppendRecordAddsCard : Claim7 := { stood := { row := fnRecordSizeIsLengthAppendRecordAddsRow, standIns := [], harness := (true, "708ac2e34f5cc82eddef92f497d5a6bd4e23eaabd15254fac8b4045df7cfe373"), looks := false }, kinds := [], alts := [], laidByText := true, laidKinds := [.data, .data, .data], laidTests := true, laidLooks := .later }
def FnRecordSizeIsLengthAppendRecordAddsCardSaid : Prop := Claim7.holds Tryd.pinned (.plain (OpenSpec.ofChange fnRecordSizeIsLengthAppendRecordAddsSpec)) fnRecordSizeIsLengthAppendRecordAddsCard

/-- THE TIED CARD OF 'zzlaws_fence_b1.FnRecordSizeMonotoneInToken'. -/
def fnRecordSizeMonotoneInTokenCard : Claim7 := { stood := { row := fnRecordSizeMonotoneInTokenRow, standIns := [], harness := (true, "708ac2e34f5cc82eddef92f497d5a6bd4e23eaabd15254fac8b4045df7cfe373"), looks := false }, kinds := [], alts := [], laidByText := true, laidKinds := [.data, .data, .data], laidTests := true, laidLooks := .later }
def FnRecordSizeMonotoneInTokenCardSaid : Prop := Claim7.holds Tryd.pinned (.plain (OpenSpec.ofChange fnRecordSizeMonotoneInTokenSpec)) fnRecordSizeMonotoneInTokenCard
end Rows
end Go.Proofs.Qxb6600886aDoor
