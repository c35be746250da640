/-
  DERIVED. GIVEN WITH THE SEED: THE CARDS: each row of YtnkjlfadegjjoaaDoorRows.lean that lists a variable, with what it lists TIED to the program's text (the seventh form; the later family's looks); each row that meets fmt, with fmt's text TOLD by the authors' own Lean function (tested against real Go, not proved from fmt's source: count such statements apart). THE CARD IS WHAT COUNTS. Prove the row's statement (the work); the ties are given (YtnkjlfadegjjoaaDoorTie.lean); close each card by the builder's one call (the guide's Derived/Test/ToyasCard.lean, 'card_holds'). Laid BY PROGRAM, IN A SANDBOX (cutbox-door.mjs). By AI agents, Wed Nov 11 2026. No macro, syntax, notation, axiom, sorry.
-/
import Derived.Test.YtnkjlfadegjjoaaDoorRows
import GoSem.ClaimSeven
namespace Go.Proofs.YtnkjlfadegjjoaaDoor
namespace Rows

/-- THE TIED CARD OF 'laws.FnWheelRun'. -/
def fnWheelRunCard : Claim7 := { stood := { row := fnWheelRunRow, standIns := [], harness := (true, "d9ca5e1ed4e03986db3723d0b66134fc1ac62a20f18e1897d019fe8a78e1b375"), looks := false }, kinds := [], alts := [], laidByText := true, laidKinds := [.sentinel], laidTests := true, laidLooks := .later }
def FnWheelRunCardSaid : Prop := Claim7.holds Tryd.pinned (.plain (OpenSpec.ofChange fnWheelRunSpec)) fnWheelRunCard

/-- THE TIED CARD OF 'laws.FnWheelDue'. -/
def fnWheelDueCard : Claim7 := { stood := { row := fnWheelDueRow, standIns := [], harness := (true, "d9ca5e1ed4e03986db3723d0b66134fc1ac62a20f18e1897d019fe8a78e1b375"), looks := false }, kinds := [], alts := [], laidByText := true, laidKinds := [.sentinel], laidTests := true, laidLooks := .later }
def FnWheelDueCardSaid : Prop := Claim7.holds Tryd.pinned (.plain (OpenSpec.ofChange fnWheelDueSpec)) fnWheelDueCard

/-- THE TIED CARD OF 'laws.FnWheelBack'. -/
def fnWheelBackCard : Claim7 := { stood := { row := fnWheelBackRow, standIns := [], harness := (true, "d9ca5e1ed4e03986db3723d0b66134fc1ac62a20f18e1897d019fe8a78e1b375"), looks := false }, kinds := [], alts := [], laidByText := true, laidKinds := [.sentinel, .sentinel, .sentinel, .sentinel], laidTests := true, laidLooks := .later }
def FnWheelBackCardSaid : Prop := Claim7.holds Tryd.pinned (.plain (OpenSpec.ofChange fnWheelBackSpec)) fnWheelBackCard

/-- THE SECOND FORM's CARD OF 'laws.FnWheelRun'. -/
def fnWheelRunUptoCard : Claim7 := { stood := { row := fnWheelRunUptoRow, standIns := [], harness := (true, "d9ca5e1ed4e03986db3723d0b66134fc1ac62a20f18e1897d019fe8a78e1b375"), looks := false }, kinds := [], alts := [], laidByText := true, laidKinds := [.sentinel], laidTests := true, laidLooks := .later }
def FnWheelRunUptoCardSaid : Prop := Claim7.holds Tryd.pinned (.plain (OpenSpec.upto fnWheelRunSpec)) fnWheelRunUptoCard

/-- THE SECOND FORM's CARD OF 'laws.FnWheelDue'. -/
def fnWheelDueUptoCard : Claim7 := { stood := { row := fnWheelDueUptoRow, standIns := [], harness := (true, "d9ca5e1ed4e03986db3723d0b66134fc1ac62a20f18e1897d019fe8a78e1b375"), looks := false }, kinds := [], alts := [], laidByText := true, laidKinds := [.sentinel], laidTests := true, laidLooks := .later }
def FnWheelDueUptoCardSaid : Prop := Claim7.holds Tryd.pinned (.plain (OpenSpec.upto fnWheelDueSpec)) fnWheelDueUptoCard

/-- THE SECOND FORM's CARD OF 'laws.FnWheelBack'. -/
def fnWheelBackUptoCard : Claim7 := { stood := { row := fnWheelBackUptoRow, standIns := [], harness := (true, "d9ca5e1ed4e03986db3723d0b66134fc1ac62a20f18e1897d019fe8a78e1b375"), looks := false }, kinds := [], alts := [], laidByText := true, laidKinds := [.sentinel, .sentinel, .sentinel, .sentinel], laidTests := true, laidLooks := .later }
def FnWheelBackUptoCardSaid : Prop := Claim7.holds Tryd.pinned (.plain (OpenSpec.upto fnWheelBackSpec)) fnWheelBackUptoCard
end Rows
end Go.Proofs.YtnkjlfadegjjoaaDoor
