/-
  DERIVED. GIVEN WITH THE SEED: THE CARDS: each row of YtmfblbjklmgncaaDoorRows.lean that lists a variable, with what it lists TIED to the program's text (the seventh form; the later family's looks); each row that meets fmt, with fmt's text TOLD by the authors' own Lean function (tested against real Go, not proved from fmt's source: count such statements apart). THE CARD IS WHAT COUNTS. Prove the row's statement (the work); the ties are given (YtmfblbjklmgncaaDoorTie.lean); close each card by the builder's one call (the guide's Derived/Test/ToyasCard.lean, 'card_holds'). Laid BY PROGRAM, IN A SANDBOX (cutbox-door.mjs). By AI agents, Wed Nov 11 2026. No macro, syntax, notation, axiom, sorry.
-/
import Derived.Test.YtmfblbjklmgncaaDoorRows
import GoSem.ClaimSeven
namespace Go.Proofs.YtmfblbjklmgncaaDoor
namespace Rows

/-- THE TIED CARD OF 'laws.FnProtoBytes'. -/
def fnProtoBytesCard : Claim7 := { stood := { row := fnProtoBytesRow, standIns := [], harness := (true, "989a94decb4c98aec9e7ed30ec7b013ce08b8b4ec11de40fa99912b2e1dd504d"), looks := false }, kinds := [], alts := [], laidByText := true, laidKinds := [.sentinel, .sentinel], laidTests := true, laidLooks := .later }
def FnProtoBytesCardSaid : Prop := Claim7.holds Tryd.pinned (.plain (OpenSpec.ofChange fnProtoBytesSpec)) fnProtoBytesCard

/-- THE TIED CARD OF 'laws.FnProtoMessage'. -/
def fnProtoMessageCard : Claim7 := { stood := { row := fnProtoMessageRow, standIns := [], harness := (true, "989a94decb4c98aec9e7ed30ec7b013ce08b8b4ec11de40fa99912b2e1dd504d"), looks := false }, kinds := [], alts := [], laidByText := true, laidKinds := [.sentinel, .sentinel, .sentinel], laidTests := true, laidLooks := .later }
def FnProtoMessageCardSaid : Prop := Claim7.holds Tryd.pinned (.plain (OpenSpec.ofChange fnProtoMessageSpec)) fnProtoMessageCard

/-- THE TIED CARD OF 'laws.FnProtoEncode'. -/
def fnProtoEncodeCard : Claim7 := { stood := { row := fnProtoEncodeRow, standIns := [], harness := (true, "989a94decb4c98aec9e7ed30ec7b013ce08b8b4ec11de40fa99912b2e1dd504d"), looks := false }, kinds := [], alts := [], laidByText := true, laidKinds := [.sentinel, .sentinel], laidTests := true, laidLooks := .later }
def FnProtoEncodeCardSaid : Prop := Claim7.holds Tryd.pinned (.plain (OpenSpec.ofChange fnProtoEncodeSpec)) fnProtoEncodeCard

/-- THE TIED CARD OF 'laws.FnTopicApart'. -/
def fnTopicApartCard : Claim7 := { stood := { row := fnTopicApartRow, standIns := [], harness := (true, "989a94decb4c98aec9e7ed30ec7b013ce08b8b4ec11de40fa99912b2e1dd504d"), looks := false }, kinds := [], alts := [], laidByText := true, laidKinds := [.sentinel], laidTests := true, laidLooks := .later }
def FnTopicApartCardSaid : Prop := Claim7.holds Tryd.pinned (.plain (OpenSpec.ofChange fnTopicApartSpec)) fnTopicApartCard

/-- THE TIED CARD OF 'laws.FnNeedsUp'. -/
def fnNeedsUpCard : Claim7 := { stood := { row := fnNeedsUpRow, standIns := [], harness := (true, "989a94decb4c98aec9e7ed30ec7b013ce08b8b4ec11de40fa99912b2e1dd504d"), looks := false }, kinds := [], alts := [], laidByText := true, laidKinds := [.sentinel], laidTests := true, laidLooks := .later }
def FnNeedsUpCardSaid : Prop := Claim7.holds Tryd.pinned (.plain (OpenSpec.ofChange fnNeedsUpSpec)) fnNeedsUpCard

/-- THE TIED CARD OF 'laws.FnFilterSubject'. -/
def fnFilterSubjectCard : Claim7 := { stood := { row := fnFilterSubjectRow, standIns := [], harness := (true, "989a94decb4c98aec9e7ed30ec7b013ce08b8b4ec11de40fa99912b2e1dd504d"), looks := false }, kinds := [], alts := [], laidByText := true, laidKinds := [.sentinel], laidTests := true, laidLooks := .later }
def FnFilterSubjectCardSaid : Prop := Claim7.holds Tryd.pinned (.plain (OpenSpec.ofChange fnFilterSubjectSpec)) fnFilterSubjectCard

/-- THE TIED CARD OF 'laws.FnTopicSubject'. -/
def fnTopicSubjectCard : Claim7 := { stood := { row := fnTopicSubjectRow, standIns := [], harness := (true, "989a94decb4c98aec9e7ed30ec7b013ce08b8b4ec11de40fa99912b2e1dd504d"), looks := false }, kinds := [], alts := [], laidByText := true, laidKinds := [.sentinel], laidTests := true, laidLooks := .later }
def FnTopicSubjectCardSaid : Prop := Claim7.holds Tryd.pinned (.plain (OpenSpec.ofChange fnTopicSubjectSpec)) fnTopicSubjectCard

/-- THE SECOND FORM's CARD OF 'laws.FnProtoBytes'. -/
def fnProtoBytesUptoCard : Claim7 := { stood := { row := fnProtoBytesUptoRow, standIns := [], harness := (true, "989a94decb4c98aec9e7ed30ec7b013ce08b8b4ec11de40fa99912b2e1dd504d"), looks := false }, kinds := [], alts := [], laidByText := true, laidKinds := [.sentinel, .sentinel], laidTests := true, laidLooks := .later }
def FnProtoBytesUptoCardSaid : Prop := Claim7.holds Tryd.pinned (.plain (OpenSpec.upto fnProtoBytesSpec)) fnProtoBytesUptoCard

/-- THE SECOND FORM's CARD OF 'laws.FnProtoMessage'. -/
def fnProtoMessageUptoCard : Claim7 := { stood := { row := fnProtoMessageUptoRow, standIns := [], harness := (true, "989a94decb4c98aec9e7ed30ec7b013ce08b8b4ec11de40fa99912b2e1dd504d"), looks := false }, kinds := [], alts := [], laidByText := true, laidKinds := [.sentinel, .sentinel, .sentinel], laidTests := true, laidLooks := .later }
def FnProtoMessageUptoCardSaid : Prop := Claim7.holds Tryd.pinned (.plain (OpenSpec.upto fnProtoMessageSpec)) fnProtoMessageUptoCard

/-- THE SECOND FORM's CARD OF 'laws.FnProtoEncode'. -/
def fnProtoEncodeUptoCard : Claim7 := { stood := { row := fnProtoEncodeUptoRow, standIns := [], harness := (true, "989a94decb4c98aec9e7ed30ec7b013ce08b8b4ec11de40fa99912b2e1dd504d"), looks := false }, kinds := [], alts := [], laidByText := true, laidKinds := [.sentinel, .sentinel], laidTests := true, laidLooks := .later }
def FnProtoEncodeUptoCardSaid : Prop := Claim7.holds Tryd.pinned (.plain (OpenSpec.upto fnProtoEncodeSpec)) fnProtoEncodeUptoCard

/-- THE SECOND FORM's CARD OF 'laws.FnTopicApart'. -/
def fnTopicApartUptoCard : Claim7 := { stood := { row := fnTopicApartUptoRow, standIns := [], harness := (true, "989a94decb4c98aec9e7ed30ec7b013ce08b8b4ec11de40fa99912b2e1dd504d"), looks := false }, kinds := [], alts := [], laidByText := true, laidKinds := [.sentinel], laidTests := true, laidLooks := .later }
def FnTopicApartUptoCardSaid : Prop := Claim7.holds Tryd.pinned (.plain (OpenSpec.upto fnTopicApartSpec)) fnTopicApartUptoCard

/-- THE SECOND FORM's CARD OF 'laws.FnNeedsUp'. -/
def fnNeedsUpUptoCard : Claim7 := { stood := { row := fnNeedsUpUptoRow, standIns := [], harness := (true, "989a94decb4c98aec9e7ed30ec7b013ce08b8b4ec11de40fa99912b2e1dd504d"), looks := false }, kinds := [], alts := [], laidByText := true, laidKinds := [.sentinel], laidTests := true, laidLooks := .later }
def FnNeedsUpUptoCardSaid : Prop := Claim7.holds Tryd.pinned (.plain (OpenSpec.upto fnNeedsUpSpec)) fnNeedsUpUptoCard

/-- THE SECOND FORM's CARD OF 'laws.FnFilterSubject'. -/
def fnFilterSubjectUptoCard : Claim7 := { stood := { row := fnFilterSubjectUptoRow, standIns := [], harness := (true, "989a94decb4c98aec9e7ed30ec7b013ce08b8b4ec11de40fa99912b2e1dd504d"), looks := false }, kinds := [], alts := [], laidByText := true, laidKinds := [.sentinel], laidTests := true, laidLooks := .later }
def FnFilterSubjectUptoCardSaid : Prop := Claim7.holds Tryd.pinned (.plain (OpenSpec.upto fnFilterSubjectSpec)) fnFilterSubjectUptoCard

/-- THE SECOND FORM's CARD OF 'laws.FnTopicSubject'. -/
def fnTopicSubjectUptoCard : Claim7 := { stood := { row := fnTopicSubjectUptoRow, standIns := [], harness := (true, "989a94decb4c98aec9e7ed30ec7b013ce08b8b4ec11de40fa99912b2e1dd504d"), looks := false }, kinds := [], alts := [], laidByText := true, laidKinds := [.sentinel], laidTests := true, laidLooks := .later }
def FnTopicSubjectUptoCardSaid : Prop := Claim7.holds Tryd.pinned (.plain (OpenSpec.upto fnTopicSubjectSpec)) fnTopicSubjectUptoCard
end Rows
end Go.Proofs.YtmfblbjklmgncaaDoor
