/-
  DERIVED. GIVEN WITH THE SEED: THE CARDS: each row of YtcnbnljlopopkaaDoorRows.lean that lists a variable, with what it lists TIED to the program's text (the seventh form; the later family's looks); each row that meets fmt, with fmt's text TOLD by the authors' own Lean function (tested against real Go, not proved from fmt's source: count such statements apart). THE CARD IS WHAT COUNTS. Prove the row's statement (the work); the ties are given (YtcnbnljlopopkaaDoorTie.lean); close each card by the builder's one call (the guide's Derived/Test/ToyasCard.lean, 'card_holds'). Laid BY PROGRAM, IN A SANDBOX (cutbox-door.mjs). By AI agents, Wed Nov 11 2026. No macro, syntax, notation, axiom, sorry.
-/
import Derived.Test.YtcnbnljlopopkaaDoorRows
import GoSem.ClaimSeven
namespace Go.Proofs.YtcnbnljlopopkaaDoor
namespace Rows

/-- THE TIED CARD OF 'laws.FnListStarting'. -/
def fnListStartingCard : Claim7 := { stood := { row := fnListStartingRow, standIns := [], harness := (true, "37ee2c2a363b7d37bbdb34129809d01b6a8eaa3f6228e86c2c8912a0652f9e3d"), looks := false }, kinds := [], alts := [], laidByText := true, laidKinds := [.sentinel, .sentinel], laidTests := true, laidLooks := .later }
def FnListStartingCardSaid : Prop := Claim7.holds Tryd.pinned (.plain (OpenSpec.ofChange fnListStartingSpec)) fnListStartingCard

/-- THE TIED CARD OF 'laws.FnListSingle'. -/
def fnListSingleCard : Claim7 := { stood := { row := fnListSingleRow, standIns := [], harness := (true, "37ee2c2a363b7d37bbdb34129809d01b6a8eaa3f6228e86c2c8912a0652f9e3d"), looks := false }, kinds := [], alts := [], laidByText := true, laidKinds := [.sentinel, .sentinel], laidTests := true, laidLooks := .later }
def FnListSingleCardSaid : Prop := Claim7.holds Tryd.pinned (.plain (OpenSpec.ofChange fnListSingleSpec)) fnListSingleCard

/-- THE TIED CARD OF 'laws.FnListMatch'. -/
def fnListMatchCard : Claim7 := { stood := { row := fnListMatchRow, standIns := [], harness := (true, "37ee2c2a363b7d37bbdb34129809d01b6a8eaa3f6228e86c2c8912a0652f9e3d"), looks := false }, kinds := [], alts := [], laidByText := true, laidKinds := [.sentinel, .sentinel], laidTests := true, laidLooks := .later }
def FnListMatchCardSaid : Prop := Claim7.holds Tryd.pinned (.plain (OpenSpec.ofChange fnListMatchSpec)) fnListMatchCard

/-- THE TIED CARD OF 'laws.FnListTurned'. -/
def fnListTurnedCard : Claim7 := { stood := { row := fnListTurnedRow, standIns := [], harness := (true, "37ee2c2a363b7d37bbdb34129809d01b6a8eaa3f6228e86c2c8912a0652f9e3d"), looks := false }, kinds := [], alts := [], laidByText := true, laidKinds := [.sentinel, .sentinel], laidTests := true, laidLooks := .later }
def FnListTurnedCardSaid : Prop := Claim7.holds Tryd.pinned (.plain (OpenSpec.ofChange fnListTurnedSpec)) fnListTurnedCard

/-- THE SECOND FORM's CARD OF 'laws.FnListStarting'. -/
def fnListStartingUptoCard : Claim7 := { stood := { row := fnListStartingUptoRow, standIns := [], harness := (true, "37ee2c2a363b7d37bbdb34129809d01b6a8eaa3f6228e86c2c8912a0652f9e3d"), looks := false }, kinds := [], alts := [], laidByText := true, laidKinds := [.sentinel, .sentinel], laidTests := true, laidLooks := .later }
def FnListStartingUptoCardSaid : Prop := Claim7.holds Tryd.pinned (.plain (OpenSpec.upto fnListStartingSpec)) fnListStartingUptoCard

/-- THE SECOND FORM's CARD OF 'laws.FnListSingle'. -/
def fnListSingleUptoCard : Claim7 := { stood := { row := fnListSingleUptoRow, standIns := [], harness := (true, "37ee2c2a363b7d37bbdb34129809d01b6a8eaa3f6228e86c2c8912a0652f9e3d"), looks := false }, kinds := [], alts := [], laidByText := true, laidKinds := [.sentinel, .sentinel], laidTests := true, laidLooks := .later }
def FnListSingleUptoCardSaid : Prop := Claim7.holds Tryd.pinned (.plain (OpenSpec.upto fnListSingleSpec)) fnListSingleUptoCard

/-- THE SECOND FORM's CARD OF 'laws.FnListMatch'. -/
def fnListMatchUptoCard : Claim7 := { stood := { row := fnListMatchUptoRow, standIns := [], harness := (true, "37ee2c2a363b7d37bbdb34129809d01b6a8eaa3f6228e86c2c8912a0652f9e3d"), looks := false }, kinds := [], alts := [], laidByText := true, laidKinds := [.sentinel, .sentinel], laidTests := true, laidLooks := .later }
def FnListMatchUptoCardSaid : Prop := Claim7.holds Tryd.pinned (.plain (OpenSpec.upto fnListMatchSpec)) fnListMatchUptoCard

/-- THE SECOND FORM's CARD OF 'laws.FnListTurned'. -/
def fnListTurnedUptoCard : Claim7 := { stood := { row := fnListTurnedUptoRow, standIns := [], harness := (true, "37ee2c2a363b7d37bbdb34129809d01b6a8eaa3f6228e86c2c8912a0652f9e3d"), looks := false }, kinds := [], alts := [], laidByText := true, laidKinds := [.sentinel, .sentinel], laidTests := true, laidLooks := .later }
def FnListTurnedUptoCardSaid : Prop := Claim7.holds Tryd.pinned (.plain (OpenSpec.upto fnListTurnedSpec)) fnListTurnedUptoCard
end Rows
end Go.Proofs.YtcnbnljlopopkaaDoor
