/-
  No cell of these rows narrows 'for every input' (looked for: loops, veiled, ifaces, maps, wideKeys, modest, calm, conditions, laid).
  DERIVED. THE GIVEN ROWS OF THIS SEAT. 10 by the template 'for every input the law returns true; each argument reads behind the call as it read before'; 0 by the template 'total and deterministic' (their statements: YtaobajfdnidkfaaTotals.lean).
  GIVEN WITH THE SEED: the statements are not yours to turn. If you find one false, say at which input.
  Laid BY PROGRAM, IN A SANDBOX (cutbox-rows.mjs): the forced cells as the released guide's own fill.sh prints them over the translation 26230e6178d36707… (all of the seat's roots in one cut). By AI agents, Wed Nov 11 2026. No macro, syntax, notation, axiom, sorry.
-/
import Derived.Test.YtaobajfdnidkfaaChecked
import GoSem.Claim
import GoSem.ClaimJoined
import GoSem.ClaimMapViews
import Derived.JoinedTies
import Derived.KernelRfl
namespace Go.Proofs.Ytaobajfdnidkfaa
/- THE CELL 'sum', in the pinned program and in every row, IS THE sha256 OF THE DUMP (.gsa) THAT YtaobajfdnidkfaaProg.lean LOADS. Nothing in Lean hashes anything: it is a label: what it is worth is what the hold of that sum in a sandbox is worth. -/
noncomputable def Try.pinned : Pinned := { name := "ytaobajfdnidkfaa", sum := "26230e6178d36707d904996468202dee321bd1a14170ba0538a7796875b37ae5", checked := Try.checked }
namespace Rows
def none {H : Type} : Left H := { results := [], args := [] }

/-- 'laws.FnTokenAt': WHATEVER THE INPUT: true; the input reads as it did. -/
def fnTokenAtSpec : ChangeSpec := { name := "fnTokenAt", fn := fun _ => fun
  | [d1, d2] => { results := [.lit (.bool true)], args := [d1, d2] }
  | _ => none }
def fnTokenAtRow : OpenClaim := { program := "ytaobajfdnidkfaa", sum := "26230e6178d36707d904996468202dee321bd1a14170ba0538a7796875b37ae5", func := "pub-tokenroad/laws.FnTokenAt", spec := "fnTokenAt", apart := false }
def FnTokenAtSaid : Prop := fnTokenAtRow.holds Try.pinned (OpenSpec.ofChange fnTokenAtSpec)

/-- ITS FALSE NEIGHBOUR: 'it returns false'. Refute it at one input. -/
def fnTokenAtWrong : ChangeSpec := { name := "fnTokenAt", fn := fun _ => fun
  | [d1, d2] => { results := [.lit (.bool false)], args := [d1, d2] }
  | _ => none }
def FnTokenAtWrongFalsely : Prop := fnTokenAtRow.holds Try.pinned (OpenSpec.ofChange fnTokenAtWrong)

/-- 'laws.FnTokensBack': WHATEVER THE INPUT: true; the input reads as it did. -/
def fnTokensBackSpec : ChangeSpec := { name := "fnTokensBack", fn := fun _ => fun
  | [d] => { results := [.lit (.bool true)], args := [d] }
  | _ => none }
def fnTokensBackRow : OpenClaim := { program := "ytaobajfdnidkfaa", sum := "26230e6178d36707d904996468202dee321bd1a14170ba0538a7796875b37ae5", func := "pub-tokenroad/laws.FnTokensBack", spec := "fnTokensBack", apart := false }
def FnTokensBackSaid : Prop := fnTokensBackRow.holds Try.pinned (OpenSpec.ofChange fnTokensBackSpec)

/-- ITS FALSE NEIGHBOUR: 'it returns false'. Refute it at one input. -/
def fnTokensBackWrong : ChangeSpec := { name := "fnTokensBack", fn := fun _ => fun
  | [d] => { results := [.lit (.bool false)], args := [d] }
  | _ => none }
def FnTokensBackWrongFalsely : Prop := fnTokensBackRow.holds Try.pinned (OpenSpec.ofChange fnTokensBackWrong)

/-- 'laws.FnSubset': WHATEVER THE INPUT: true; the input reads as it did. -/
def fnSubsetSpec : ChangeSpec := { name := "fnSubset", fn := fun _ => fun
  | [d1, d2] => { results := [.lit (.bool true)], args := [d1, d2] }
  | _ => none }
def fnSubsetRow : OpenClaim := { program := "ytaobajfdnidkfaa", sum := "26230e6178d36707d904996468202dee321bd1a14170ba0538a7796875b37ae5", func := "pub-tokenroad/laws.FnSubset", spec := "fnSubset", inPlace := ["internal/bytealg.abigen_runtime_cmpstring"], apart := false }
def FnSubsetSaid : Prop := fnSubsetRow.holds Try.pinned (OpenSpec.ofChange fnSubsetSpec)

/-- ITS FALSE NEIGHBOUR: 'it returns false'. Refute it at one input. -/
def fnSubsetWrong : ChangeSpec := { name := "fnSubset", fn := fun _ => fun
  | [d1, d2] => { results := [.lit (.bool false)], args := [d1, d2] }
  | _ => none }
def FnSubsetWrongFalsely : Prop := fnSubsetRow.holds Try.pinned (OpenSpec.ofChange fnSubsetWrong)

/-- 'laws.FnMatchesOrder': WHATEVER THE INPUT: true; the input reads as it did. -/
def fnMatchesOrderSpec : ChangeSpec := { name := "fnMatchesOrder", fn := fun _ => fun
  | [d1, d2, d3] => { results := [.lit (.bool true)], args := [d1, d2, d3] }
  | _ => none }
def fnMatchesOrderRow : OpenClaim := { program := "ytaobajfdnidkfaa", sum := "26230e6178d36707d904996468202dee321bd1a14170ba0538a7796875b37ae5", func := "pub-tokenroad/laws.FnMatchesOrder", spec := "fnMatchesOrder", inPlace := ["internal/bytealg.abigen_runtime_cmpstring"], apart := false }
def FnMatchesOrderSaid : Prop := fnMatchesOrderRow.holds Try.pinned (OpenSpec.ofChange fnMatchesOrderSpec)

/-- ITS FALSE NEIGHBOUR: 'it returns false'. Refute it at one input. -/
def fnMatchesOrderWrong : ChangeSpec := { name := "fnMatchesOrder", fn := fun _ => fun
  | [d1, d2, d3] => { results := [.lit (.bool false)], args := [d1, d2, d3] }
  | _ => none }
def FnMatchesOrderWrongFalsely : Prop := fnMatchesOrderRow.holds Try.pinned (OpenSpec.ofChange fnMatchesOrderWrong)

/-- 'laws.FnValid': WHATEVER THE INPUT: true; the input reads as it did. -/
def fnValidSpec : ChangeSpec := { name := "fnValid", fn := fun _ => fun
  | [d] => { results := [.lit (.bool true)], args := [d] }
  | _ => none }
def fnValidRow : OpenClaim := { program := "ytaobajfdnidkfaa", sum := "26230e6178d36707d904996468202dee321bd1a14170ba0538a7796875b37ae5", func := "pub-tokenroad/laws.FnValid", spec := "fnValid", inPlace := ["internal/bytealg.IndexByte"], apart := false }
def FnValidSaid : Prop := fnValidRow.holds Try.pinned (OpenSpec.ofChange fnValidSpec)

/-- ITS FALSE NEIGHBOUR: 'it returns false'. Refute it at one input. -/
def fnValidWrong : ChangeSpec := { name := "fnValid", fn := fun _ => fun
  | [d] => { results := [.lit (.bool false)], args := [d] }
  | _ => none }
def FnValidWrongFalsely : Prop := fnValidRow.holds Try.pinned (OpenSpec.ofChange fnValidWrong)

/-- 'laws.FnPublish': WHATEVER THE INPUT: true; the input reads as it did. -/
def fnPublishSpec : ChangeSpec := { name := "fnPublish", fn := fun _ => fun
  | [d] => { results := [.lit (.bool true)], args := [d] }
  | _ => none }
def fnPublishRow : OpenClaim := { program := "ytaobajfdnidkfaa", sum := "26230e6178d36707d904996468202dee321bd1a14170ba0538a7796875b37ae5", func := "pub-tokenroad/laws.FnPublish", spec := "fnPublish", inPlace := ["internal/bytealg.IndexByte"], apart := false }
def FnPublishSaid : Prop := fnPublishRow.holds Try.pinned (OpenSpec.ofChange fnPublishSpec)

/-- ITS FALSE NEIGHBOUR: 'it returns false'. Refute it at one input. -/
def fnPublishWrong : ChangeSpec := { name := "fnPublish", fn := fun _ => fun
  | [d] => { results := [.lit (.bool false)], args := [d] }
  | _ => none }
def FnPublishWrongFalsely : Prop := fnPublishRow.holds Try.pinned (OpenSpec.ofChange fnPublishWrong)

/-- 'laws.FnCollide': WHATEVER THE INPUT: true; the input reads as it did. -/
def fnCollideSpec : ChangeSpec := { name := "fnCollide", fn := fun _ => fun
  | [d1, d2] => { results := [.lit (.bool true)], args := [d1, d2] }
  | _ => none }
def fnCollideRow : OpenClaim := { program := "ytaobajfdnidkfaa", sum := "26230e6178d36707d904996468202dee321bd1a14170ba0538a7796875b37ae5", func := "pub-tokenroad/laws.FnCollide", spec := "fnCollide", inPlace := ["internal/bytealg.abigen_runtime_cmpstring"], apart := false }
def FnCollideSaid : Prop := fnCollideRow.holds Try.pinned (OpenSpec.ofChange fnCollideSpec)

/-- ITS FALSE NEIGHBOUR: 'it returns false'. Refute it at one input. -/
def fnCollideWrong : ChangeSpec := { name := "fnCollide", fn := fun _ => fun
  | [d1, d2] => { results := [.lit (.bool false)], args := [d1, d2] }
  | _ => none }
def FnCollideWrongFalsely : Prop := fnCollideRow.holds Try.pinned (OpenSpec.ofChange fnCollideWrong)

/-- 'laws.FnCloseMessage': WHATEVER THE INPUT: true; the input reads as it did. -/
def fnCloseMessageSpec : ChangeSpec := { name := "fnCloseMessage", fn := fun _ => fun
  | [d1, d2] => { results := [.lit (.bool true)], args := [d1, d2] }
  | _ => none }
def fnCloseMessageRow : OpenClaim := { program := "ytaobajfdnidkfaa", sum := "26230e6178d36707d904996468202dee321bd1a14170ba0538a7796875b37ae5", func := "pub-tokenroad/laws.FnCloseMessage", spec := "fnCloseMessage", named := ["encoding/binary.BigEndian"], apart := false }
def FnCloseMessageSaid : Prop := fnCloseMessageRow.holds Try.pinned (OpenSpec.ofChange fnCloseMessageSpec)

/-- ITS FALSE NEIGHBOUR: 'it returns false'. Refute it at one input. -/
def fnCloseMessageWrong : ChangeSpec := { name := "fnCloseMessage", fn := fun _ => fun
  | [d1, d2] => { results := [.lit (.bool false)], args := [d1, d2] }
  | _ => none }
def FnCloseMessageWrongFalsely : Prop := fnCloseMessageRow.holds Try.pinned (OpenSpec.ofChange fnCloseMessageWrong)

/-- 'laws.FnParseSize': WHATEVER THE INPUT: true; the input reads as it did. -/
def fnParseSizeSpec : ChangeSpec := { name := "fnParseSize", fn := fun _ => fun
  | [d] => { results := [.lit (.bool true)], args := [d] }
  | _ => none }
def fnParseSizeRow : OpenClaim := { program := "ytaobajfdnidkfaa", sum := "26230e6178d36707d904996468202dee321bd1a14170ba0538a7796875b37ae5", func := "pub-tokenroad/laws.FnParseSize", spec := "fnParseSize", apart := false }
def FnParseSizeSaid : Prop := fnParseSizeRow.holds Try.pinned (OpenSpec.ofChange fnParseSizeSpec)

/-- ITS FALSE NEIGHBOUR: 'it returns false'. Refute it at one input. -/
def fnParseSizeWrong : ChangeSpec := { name := "fnParseSize", fn := fun _ => fun
  | [d] => { results := [.lit (.bool false)], args := [d] }
  | _ => none }
def FnParseSizeWrongFalsely : Prop := fnParseSizeRow.holds Try.pinned (OpenSpec.ofChange fnParseSizeWrong)

/-- 'laws.FnMaskParts': WHATEVER THE INPUT: true; the input reads as it did. -/
def fnMaskPartsSpec : ChangeSpec := { name := "fnMaskParts", fn := fun _ => fun
  | [d1, d2, d3] => { results := [.lit (.bool true)], args := [d1, d2, d3] }
  | _ => none }
def fnMaskPartsRow : OpenClaim := { program := "ytaobajfdnidkfaa", sum := "26230e6178d36707d904996468202dee321bd1a14170ba0538a7796875b37ae5", func := "pub-tokenroad/laws.FnMaskParts", spec := "fnMaskParts", named := ["encoding/binary.BigEndian"], apart := false }
def FnMaskPartsSaid : Prop := fnMaskPartsRow.holds Try.pinned (OpenSpec.ofChange fnMaskPartsSpec)

/-- ITS FALSE NEIGHBOUR: 'it returns false'. Refute it at one input. -/
def fnMaskPartsWrong : ChangeSpec := { name := "fnMaskParts", fn := fun _ => fun
  | [d1, d2, d3] => { results := [.lit (.bool false)], args := [d1, d2, d3] }
  | _ => none }
def FnMaskPartsWrongFalsely : Prop := fnMaskPartsRow.holds Try.pinned (OpenSpec.ofChange fnMaskPartsWrong)

/- THE SECOND FORM. 'bulk': how many values and letters a reading holds, each counted each time it is reached (what is shared counts as often as it is met; a slice's spare places count too). A statement '..UptoSaid' is the law's where the arguments, and the package variables that the reading takes, are together of bulk at most 1048576: NARROWER than '..Said'. Prove '..Said' where nothing that the law and all that it calls make is longer than what came in: it says more and counts as full. Else prove '..UptoSaid'. A law counts once. -/
mutual
def uptoBulk {H : Type} : DataW H → Nat
  | .lit (.string bytes) => bytes.length + 1
  | .lit _ => 1
  | .nil => 1
  | .ptr d => uptoBulk d + 1
  | .slice elems spare => uptoBulkAll elems + uptoBulkAll spare + 1
  | .agg parts => uptoBulkAll parts + 1
  | .iface _ d => uptoBulk d + 1
  | .map entries => uptoBulkEntries entries + 1
  | .held _ => 1
def uptoBulkAll {H : Type} : List (DataW H) → Nat
  | [] => 0
  | d :: r => uptoBulk d + uptoBulkAll r
def uptoBulkEntries {H : Type} : List (Lit × DataW H) → Nat
  | [] => 0
  | x :: r => uptoBulkEntry x + uptoBulkEntries r
def uptoBulkEntry {H : Type} : Lit × DataW H → Nat
  | (.string bytes, d) => bytes.length + uptoBulk d + 1
  | (_, d) => uptoBulk d + 1
 end
def uptoSmall : (H : Type) → List (DataW H) → Bool := fun _ ds => decide (uptoBulkAll ds ≤ 1048576)
def OpenSpec.upto (s : _root_.Go.ChangeSpec) : _root_.Go.OpenSpec := { _root_.Go.OpenSpec.ofChange s with cond := some uptoSmall }

/-- 'laws.FnTokenAt', WHERE WHAT IT READS IS OF BULK AT MOST 1048576: true; the input reads as it did. -/
def fnTokenAtUptoRow : OpenClaim := { program := "ytaobajfdnidkfaa", sum := "26230e6178d36707d904996468202dee321bd1a14170ba0538a7796875b37ae5", func := "pub-tokenroad/laws.FnTokenAt", spec := "fnTokenAt", apart := false, narrowed := true }
def FnTokenAtUptoSaid : Prop := fnTokenAtUptoRow.holds Try.pinned (OpenSpec.upto fnTokenAtSpec)

/-- 'laws.FnTokensBack', WHERE WHAT IT READS IS OF BULK AT MOST 1048576: true; the input reads as it did. -/
def fnTokensBackUptoRow : OpenClaim := { program := "ytaobajfdnidkfaa", sum := "26230e6178d36707d904996468202dee321bd1a14170ba0538a7796875b37ae5", func := "pub-tokenroad/laws.FnTokensBack", spec := "fnTokensBack", apart := false, narrowed := true }
def FnTokensBackUptoSaid : Prop := fnTokensBackUptoRow.holds Try.pinned (OpenSpec.upto fnTokensBackSpec)

/-- 'laws.FnSubset', WHERE WHAT IT READS IS OF BULK AT MOST 1048576: true; the input reads as it did. -/
def fnSubsetUptoRow : OpenClaim := { program := "ytaobajfdnidkfaa", sum := "26230e6178d36707d904996468202dee321bd1a14170ba0538a7796875b37ae5", func := "pub-tokenroad/laws.FnSubset", spec := "fnSubset", inPlace := ["internal/bytealg.abigen_runtime_cmpstring"], apart := false, narrowed := true }
def FnSubsetUptoSaid : Prop := fnSubsetUptoRow.holds Try.pinned (OpenSpec.upto fnSubsetSpec)

/-- 'laws.FnMatchesOrder', WHERE WHAT IT READS IS OF BULK AT MOST 1048576: true; the input reads as it did. -/
def fnMatchesOrderUptoRow : OpenClaim := { program := "ytaobajfdnidkfaa", sum := "26230e6178d36707d904996468202dee321bd1a14170ba0538a7796875b37ae5", func := "pub-tokenroad/laws.FnMatchesOrder", spec := "fnMatchesOrder", inPlace := ["internal/bytealg.abigen_runtime_cmpstring"], apart := false, narrowed := true }
def FnMatchesOrderUptoSaid : Prop := fnMatchesOrderUptoRow.holds Try.pinned (OpenSpec.upto fnMatchesOrderSpec)

/-- 'laws.FnValid', WHERE WHAT IT READS IS OF BULK AT MOST 1048576: true; the input reads as it did. -/
def fnValidUptoRow : OpenClaim := { program := "ytaobajfdnidkfaa", sum := "26230e6178d36707d904996468202dee321bd1a14170ba0538a7796875b37ae5", func := "pub-tokenroad/laws.FnValid", spec := "fnValid", inPlace := ["internal/bytealg.IndexByte"], apart := false, narrowed := true }
def FnValidUptoSaid : Prop := fnValidUptoRow.holds Try.pinned (OpenSpec.upto fnValidSpec)

/-- 'laws.FnPublish', WHERE WHAT IT READS IS OF BULK AT MOST 1048576: true; the input reads as it did. -/
def fnPublishUptoRow : OpenClaim := { program := "ytaobajfdnidkfaa", sum := "26230e6178d36707d904996468202dee321bd1a14170ba0538a7796875b37ae5", func := "pub-tokenroad/laws.FnPublish", spec := "fnPublish", inPlace := ["internal/bytealg.IndexByte"], apart := false, narrowed := true }
def FnPublishUptoSaid : Prop := fnPublishUptoRow.holds Try.pinned (OpenSpec.upto fnPublishSpec)

/-- 'laws.FnCollide', WHERE WHAT IT READS IS OF BULK AT MOST 1048576: true; the input reads as it did. -/
def fnCollideUptoRow : OpenClaim := { program := "ytaobajfdnidkfaa", sum := "26230e6178d36707d904996468202dee321bd1a14170ba0538a7796875b37ae5", func := "pub-tokenroad/laws.FnCollide", spec := "fnCollide", inPlace := ["internal/bytealg.abigen_runtime_cmpstring"], apart := false, narrowed := true }
def FnCollideUptoSaid : Prop := fnCollideUptoRow.holds Try.pinned (OpenSpec.upto fnCollideSpec)

/-- 'laws.FnCloseMessage', WHERE WHAT IT READS IS OF BULK AT MOST 1048576: true; the input reads as it did. -/
def fnCloseMessageUptoRow : OpenClaim := { program := "ytaobajfdnidkfaa", sum := "26230e6178d36707d904996468202dee321bd1a14170ba0538a7796875b37ae5", func := "pub-tokenroad/laws.FnCloseMessage", spec := "fnCloseMessage", named := ["encoding/binary.BigEndian"], apart := false, narrowed := true }
def FnCloseMessageUptoSaid : Prop := fnCloseMessageUptoRow.holds Try.pinned (OpenSpec.upto fnCloseMessageSpec)

/-- 'laws.FnParseSize', WHERE WHAT IT READS IS OF BULK AT MOST 1048576: true; the input reads as it did. -/
def fnParseSizeUptoRow : OpenClaim := { program := "ytaobajfdnidkfaa", sum := "26230e6178d36707d904996468202dee321bd1a14170ba0538a7796875b37ae5", func := "pub-tokenroad/laws.FnParseSize", spec := "fnParseSize", apart := false, narrowed := true }
def FnParseSizeUptoSaid : Prop := fnParseSizeUptoRow.holds Try.pinned (OpenSpec.upto fnParseSizeSpec)

/-- 'laws.FnMaskParts', WHERE WHAT IT READS IS OF BULK AT MOST 1048576: true; the input reads as it did. -/
def fnMaskPartsUptoRow : OpenClaim := { program := "ytaobajfdnidkfaa", sum := "26230e6178d36707d904996468202dee321bd1a14170ba0538a7796875b37ae5", func := "pub-tokenroad/laws.FnMaskParts", spec := "fnMaskParts", named := ["encoding/binary.BigEndian"], apart := false, narrowed := true }
def FnMaskPartsUptoSaid : Prop := fnMaskPartsUptoRow.holds Try.pinned (OpenSpec.upto fnMaskPartsSpec)

end Rows
end Go.Proofs.Ytaobajfdnidkfaa
