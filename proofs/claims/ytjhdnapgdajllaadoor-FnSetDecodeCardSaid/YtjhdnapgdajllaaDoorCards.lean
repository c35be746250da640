/-
  DERIVED. GIVEN WITH THE SEED: THE CARDS: each row of YtjhdnapgdajllaaDoorRows.lean that lists a variable, with what it lists TIED to the program's text (the seventh form; the later family's looks); each row that meets fmt, with fmt's text TOLD by the authors' own Lean function (tested against real Go, not proved from fmt's source: count such statements apart). THE CARD IS WHAT COUNTS. Prove the row's statement (the work); the ties are given (YtjhdnapgdajllaaDoorTie.lean); close each card by the builder's one call (the guide's Derived/Test/ToyasCard.lean, 'card_holds'). Laid BY PROGRAM, IN A SANDBOX (cutbox-door.mjs). By AI agents, Wed Nov 11 2026. No macro, syntax, notation, axiom, sorry.
-/
import Derived.Test.YtjhdnapgdajllaaDoorRows
import GoSem.ClaimSeven
namespace Go.Proofs.YtjhdnapgdajllaaDoor
namespace Rows

/-- THE TIED CARD OF 'laws.FnSetFirst'. -/
def fnSetFirstCard : Claim7 := { stood := { row := fnSetFirstRow, standIns := [], harness := (true, "26300f2071e52b584f198e0d4714b2cc5c98cf9cfbcb06b87c903140880a61e4"), looks := false }, kinds := [], alts := [], laidByText := true, laidKinds := [.data], laidTests := true, laidLooks := .later }
def FnSetFirstCardSaid : Prop := Claim7.holds Tryd.pinned (.plain (OpenSpec.ofChange fnSetFirstSpec)) fnSetFirstCard

/-- THE TIED CARD OF 'laws.FnSetShape'. -/
def fnSetShapeCard : Claim7 := { stood := { row := fnSetShapeRow, standIns := [], harness := (true, "26300f2071e52b584f198e0d4714b2cc5c98cf9cfbcb06b87c903140880a61e4"), looks := false }, kinds := [], alts := [], laidByText := true, laidKinds := [.data], laidTests := true, laidLooks := .later }
def FnSetShapeCardSaid : Prop := Claim7.holds Tryd.pinned (.plain (OpenSpec.ofChange fnSetShapeSpec)) fnSetShapeCard

/-- THE TIED CARD OF 'laws.FnSetClone'. -/
def fnSetCloneCard : Claim7 := { stood := { row := fnSetCloneRow, standIns := [], harness := (true, "26300f2071e52b584f198e0d4714b2cc5c98cf9cfbcb06b87c903140880a61e4"), looks := false }, kinds := [], alts := [], laidByText := true, laidKinds := [.data], laidTests := true, laidLooks := .later }
def FnSetCloneCardSaid : Prop := Claim7.holds Tryd.pinned (.plain (OpenSpec.ofChange fnSetCloneSpec)) fnSetCloneCard

/-- THE TIED CARD OF 'laws.FnSetState'. -/
def fnSetStateCard : Claim7 := { stood := { row := fnSetStateRow, standIns := [], harness := (true, "26300f2071e52b584f198e0d4714b2cc5c98cf9cfbcb06b87c903140880a61e4"), looks := false }, kinds := [], alts := [], laidByText := true, laidKinds := [.data], laidTests := true, laidLooks := .later }
def FnSetStateCardSaid : Prop := Claim7.holds Tryd.pinned (.plain (OpenSpec.ofChange fnSetStateSpec)) fnSetStateCard

/-- THE TIED CARD OF 'laws.FnSetDecode'. -/
def fnSetDecodeCard : Claim7 := { stood := { row := fnSetDecodeRow, standIns := [], harness := (true, "26300f2071e52b584f198e0d4714b2cc5c98cf9cfbcb06b87c903140880a61e4"), looks := false }, kinds := [], alts := [], laidByText := true, laidKinds := [.data, .sentinel, .sentinel], laidTests := true, laidLooks := .later }
def FnSetDecodeCardSaid : Prop := Claim7.holds Tryd.pinned (.plain (OpenSpec.ofChange fnSetDecodeSpec)) fnSetDecodeCard

/-- THE TIED CARD OF 'laws.FnSetBack'. -/
def fnSetBackCard : Claim7 := { stood := { row := fnSetBackRow, standIns := [], harness := (true, "26300f2071e52b584f198e0d4714b2cc5c98cf9cfbcb06b87c903140880a61e4"), looks := false }, kinds := [], alts := [], laidByText := true, laidKinds := [.data, .sentinel, .sentinel], laidTests := true, laidLooks := .later }
def FnSetBackCardSaid : Prop := Claim7.holds Tryd.pinned (.plain (OpenSpec.ofChange fnSetBackSpec)) fnSetBackCard

/-- THE TIED CARD OF 'laws.FnSetUnion'. -/
def fnSetUnionCard : Claim7 := { stood := { row := fnSetUnionRow, standIns := [], harness := (true, "26300f2071e52b584f198e0d4714b2cc5c98cf9cfbcb06b87c903140880a61e4"), looks := false }, kinds := [], alts := [], laidByText := true, laidKinds := [.data], laidTests := true, laidLooks := .later }
def FnSetUnionCardSaid : Prop := Claim7.holds Tryd.pinned (.plain (OpenSpec.ofChange fnSetUnionSpec)) fnSetUnionCard

/-- THE TIED CARD OF 'laws.FnSetLattice'. -/
def fnSetLatticeCard : Claim7 := { stood := { row := fnSetLatticeRow, standIns := [], harness := (true, "26300f2071e52b584f198e0d4714b2cc5c98cf9cfbcb06b87c903140880a61e4"), looks := false }, kinds := [], alts := [], laidByText := true, laidKinds := [.data], laidTests := true, laidLooks := .later }
def FnSetLatticeCardSaid : Prop := Claim7.holds Tryd.pinned (.plain (OpenSpec.ofChange fnSetLatticeSpec)) fnSetLatticeCard

/-- THE SECOND FORM's CARD OF 'laws.FnSetFirst'. -/
def fnSetFirstUptoCard : Claim7 := { stood := { row := fnSetFirstUptoRow, standIns := [], harness := (true, "26300f2071e52b584f198e0d4714b2cc5c98cf9cfbcb06b87c903140880a61e4"), looks := false }, kinds := [], alts := [], laidByText := true, laidKinds := [.data], laidTests := true, laidLooks := .later }
def FnSetFirstUptoCardSaid : Prop := Claim7.holds Tryd.pinned (.plain (OpenSpec.upto fnSetFirstSpec)) fnSetFirstUptoCard

/-- THE SECOND FORM's CARD OF 'laws.FnSetShape'. -/
def fnSetShapeUptoCard : Claim7 := { stood := { row := fnSetShapeUptoRow, standIns := [], harness := (true, "26300f2071e52b584f198e0d4714b2cc5c98cf9cfbcb06b87c903140880a61e4"), looks := false }, kinds := [], alts := [], laidByText := true, laidKinds := [.data], laidTests := true, laidLooks := .later }
def FnSetShapeUptoCardSaid : Prop := Claim7.holds Tryd.pinned (.plain (OpenSpec.upto fnSetShapeSpec)) fnSetShapeUptoCard

/-- THE SECOND FORM's CARD OF 'laws.FnSetClone'. -/
def fnSetCloneUptoCard : Claim7 := { stood := { row := fnSetCloneUptoRow, standIns := [], harness := (true, "26300f2071e52b584f198e0d4714b2cc5c98cf9cfbcb06b87c903140880a61e4"), looks := false }, kinds := [], alts := [], laidByText := true, laidKinds := [.data], laidTests := true, laidLooks := .later }
def FnSetCloneUptoCardSaid : Prop := Claim7.holds Tryd.pinned (.plain (OpenSpec.upto fnSetCloneSpec)) fnSetCloneUptoCard

/-- THE SECOND FORM's CARD OF 'laws.FnSetState'. -/
def fnSetStateUptoCard : Claim7 := { stood := { row := fnSetStateUptoRow, standIns := [], harness := (true, "26300f2071e52b584f198e0d4714b2cc5c98cf9cfbcb06b87c903140880a61e4"), looks := false }, kinds := [], alts := [], laidByText := true, laidKinds := [.data], laidTests := true, laidLooks := .later }
def FnSetStateUptoCardSaid : Prop := Claim7.holds Tryd.pinned (.plain (OpenSpec.upto fnSetStateSpec)) fnSetStateUptoCard

/-- THE SECOND FORM's CARD OF 'laws.FnSetDecode'. -/
def fnSetDecodeUptoCard : Claim7 := { stood := { row := fnSetDecodeUptoRow, standIns := [], harness := (true, "26300f2071e52b584f198e0d4714b2cc5c98cf9cfbcb06b87c903140880a61e4"), looks := false }, kinds := [], alts := [], laidByText := true, laidKinds := [.data, .sentinel, .sentinel], laidTests := true, laidLooks := .later }
def FnSetDecodeUptoCardSaid : Prop := Claim7.holds Tryd.pinned (.plain (OpenSpec.upto fnSetDecodeSpec)) fnSetDecodeUptoCard

/-- THE SECOND FORM's CARD OF 'laws.FnSetBack'. -/
def fnSetBackUptoCard : Claim7 := { stood := { row := fnSetBackUptoRow, standIns := [], harness := (true, "26300f2071e52b584f198e0d4714b2cc5c98cf9cfbcb06b87c903140880a61e4"), looks := false }, kinds := [], alts := [], laidByText := true, laidKinds := [.data, .sentinel, .sentinel], laidTests := true, laidLooks := .later }
def FnSetBackUptoCardSaid : Prop := Claim7.holds Tryd.pinned (.plain (OpenSpec.upto fnSetBackSpec)) fnSetBackUptoCard

/-- THE SECOND FORM's CARD OF 'laws.FnSetUnion'. -/
def fnSetUnionUptoCard : Claim7 := { stood := { row := fnSetUnionUptoRow, standIns := [], harness := (true, "26300f2071e52b584f198e0d4714b2cc5c98cf9cfbcb06b87c903140880a61e4"), looks := false }, kinds := [], alts := [], laidByText := true, laidKinds := [.data], laidTests := true, laidLooks := .later }
def FnSetUnionUptoCardSaid : Prop := Claim7.holds Tryd.pinned (.plain (OpenSpec.upto fnSetUnionSpec)) fnSetUnionUptoCard

/-- THE SECOND FORM's CARD OF 'laws.FnSetLattice'. -/
def fnSetLatticeUptoCard : Claim7 := { stood := { row := fnSetLatticeUptoRow, standIns := [], harness := (true, "26300f2071e52b584f198e0d4714b2cc5c98cf9cfbcb06b87c903140880a61e4"), looks := false }, kinds := [], alts := [], laidByText := true, laidKinds := [.data], laidTests := true, laidLooks := .later }
def FnSetLatticeUptoCardSaid : Prop := Claim7.holds Tryd.pinned (.plain (OpenSpec.upto fnSetLatticeSpec)) fnSetLatticeUptoCard
end Rows
end Go.Proofs.YtjhdnapgdajllaaDoor
