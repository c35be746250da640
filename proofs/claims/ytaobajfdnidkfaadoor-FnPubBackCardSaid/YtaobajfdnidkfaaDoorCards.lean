/-
  DERIVED. GIVEN WITH THE SEED: THE CARDS: each row of YtaobajfdnidkfaaDoorRows.lean that lists a variable, with what it lists TIED to the program's text (the seventh form; the later family's looks); each row that meets fmt, with fmt's text TOLD by the authors' own Lean function (tested against real Go, not proved from fmt's source: count such statements apart). THE CARD IS WHAT COUNTS. Prove the row's statement (the work); the ties are given (YtaobajfdnidkfaaDoorTie.lean); close each card by the builder's one call (the guide's Derived/Test/ToyasCard.lean, 'card_holds'). Laid BY PROGRAM, IN A SANDBOX (cutbox-door.mjs). By AI agents, Wed Nov 11 2026. No macro, syntax, notation, axiom, sorry.
-/
import Derived.Test.YtaobajfdnidkfaaDoorRows
import GoSem.ClaimSeven
namespace Go.Proofs.YtaobajfdnidkfaaDoor
namespace Rows

/-- THE TIED CARD OF 'laws.FnPub'. -/
def fnPubCard : Claim7 := { stood := { row := fnPubRow, standIns := [], harness := (true, "d1fa903dadb0e5a1ece81f7633ccaae314536023d083492ea8e05954cbb2ec18"), looks := true }, kinds := [], alts := [], laidByText := true, laidKinds := [.sentinel], laidTests := true, laidLooks := .later }
def FnPubCardSaid : Prop := Claim7.holds Tryd.pinned (.plain (OpenSpec.ofChange fnPubSpec)) fnPubCard

/-- THE TIED CARD OF 'laws.FnPubBack'. -/
def fnPubBackCard : Claim7 := { stood := { row := fnPubBackRow, standIns := [], harness := (true, "d1fa903dadb0e5a1ece81f7633ccaae314536023d083492ea8e05954cbb2ec18"), looks := true }, kinds := [], alts := [], laidByText := true, laidKinds := [.sentinel], laidTests := true, laidLooks := .later }
def FnPubBackCardSaid : Prop := Claim7.holds Tryd.pinned (.plain (OpenSpec.ofChange fnPubBackSpec)) fnPubBackCard

/-- THE SECOND FORM's CARD OF 'laws.FnPub'. -/
def fnPubUptoCard : Claim7 := { stood := { row := fnPubUptoRow, standIns := [], harness := (true, "d1fa903dadb0e5a1ece81f7633ccaae314536023d083492ea8e05954cbb2ec18"), looks := true }, kinds := [], alts := [], laidByText := true, laidKinds := [.sentinel], laidTests := true, laidLooks := .later }
def FnPubUptoCardSaid : Prop := Claim7.holds Tryd.pinned (.plain (OpenSpec.upto fnPubSpec)) fnPubUptoCard

/-- THE SECOND FORM's CARD OF 'laws.FnPubBack'. -/
def fnPubBackUptoCard : Claim7 := { stood := { row := fnPubBackUptoRow, standIns := [], harness := (true, "d1fa903dadb0e5a1ece81f7633ccaae314536023d083492ea8e05954cbb2ec18"), looks := true }, kinds := [], alts := [], laidByText := true, laidKinds := [.sentinel], laidTests := true, laidLooks := .later }
def FnPubBackUptoCardSaid : Prop := Claim7.holds Tryd.pinned (.plain (OpenSpec.upto fnPubBackSpec)) fnPubBackUptoCard
end Rows
end Go.Proofs.YtaobajfdnidkfaaDoor
