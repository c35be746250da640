/-
  NARROWER THAN 'FOR EVERY INPUT', by the rows' own cells (each row's printed sentence says how): FnSetFirst: laid · FnSetShape: laid · FnSetClone: laid · FnSetState: laid · FnSetDecode: laid · FnSetBack: laid · FnSetUnion: laid · FnSetLattice: laid.
  DERIVED. THE GIVEN ROWS OF THIS SEAT. 8 by the template 'for every input the law returns true; each argument reads behind the call as it read before'; 0 by the template 'total and deterministic' (their statements: YtjhdnapgdajllaaDoorTotals.lean).
  GIVEN WITH THE SEED: the statements are not yours to turn. If you find one false, say at which input.
  Laid BY PROGRAM, IN A SANDBOX (cutbox-rows.mjs): the forced cells as the released guide's own fill.sh prints them over the translation 5271be071db7ec2a… (all of the seat's roots in one cut). By AI agents, Wed Nov 11 2026. No macro, syntax, notation, axiom, sorry.
-/
import Derived.Test.YtjhdnapgdajllaaDoorChecked
import GoSem.Claim
import GoSem.ClaimJoined
import GoSem.ClaimMapViews
import Derived.JoinedTies
import Derived.KernelRfl
namespace Go.Proofs.YtjhdnapgdajllaaDoor
/- THE CELL 'sum', in the pinned program and in every row, IS THE sha256 OF THE DUMP (.gsa) THAT YtjhdnapgdajllaaDoorProg.lean LOADS. Nothing in Lean hashes anything: it is a label: what it is worth is what the hold of that sum in a sandbox is worth. -/
noncomputable def Tryd.pinned : Pinned := { name := "ytjhdnapgdajllaadoor", sum := "5271be071db7ec2a8ebd86e59d5c6e2b482732af5dc4fcc14e1e1954e40244e1", checked := Tryd.checked }
namespace Rows
def none {H : Type} : Left H := { results := [], args := [] }

/- WHAT THE LISTED PACKAGE-LEVEL VARIABLES READ AS WHEN THE CALL BEGINS. Each datum BY PROGRAM (the guide's laid-datum.mjs) off the statement by which the dump's own 'gosem.cut.vars' lays the variable. In a bare row this is a premise. The card (YtjhdnapgdajllaaDoorCards.lean) ties it to the program's text. -/
def laid_math_bits_deBruijn64tab {H : Type} : DataW H := .agg [.lit (.int .u8 0), .lit (.int .u8 1), .lit (.int .u8 56), .lit (.int .u8 2), .lit (.int .u8 57), .lit (.int .u8 49), .lit (.int .u8 28), .lit (.int .u8 3), .lit (.int .u8 61), .lit (.int .u8 58), .lit (.int .u8 42), .lit (.int .u8 50), .lit (.int .u8 38), .lit (.int .u8 29), .lit (.int .u8 17), .lit (.int .u8 4), .lit (.int .u8 62), .lit (.int .u8 47), .lit (.int .u8 59), .lit (.int .u8 36), .lit (.int .u8 45), .lit (.int .u8 43), .lit (.int .u8 51), .lit (.int .u8 22), .lit (.int .u8 53), .lit (.int .u8 39), .lit (.int .u8 33), .lit (.int .u8 30), .lit (.int .u8 24), .lit (.int .u8 18), .lit (.int .u8 12), .lit (.int .u8 5), .lit (.int .u8 63), .lit (.int .u8 55), .lit (.int .u8 48), .lit (.int .u8 27), .lit (.int .u8 60), .lit (.int .u8 41), .lit (.int .u8 37), .lit (.int .u8 16), .lit (.int .u8 46), .lit (.int .u8 35), .lit (.int .u8 44), .lit (.int .u8 21), .lit (.int .u8 52), .lit (.int .u8 32), .lit (.int .u8 23), .lit (.int .u8 11), .lit (.int .u8 54), .lit (.int .u8 26), .lit (.int .u8 40), .lit (.int .u8 15), .lit (.int .u8 34), .lit (.int .u8 20), .lit (.int .u8 31), .lit (.int .u8 10), .lit (.int .u8 25), .lit (.int .u8 14), .lit (.int .u8 19), .lit (.int .u8 9), .lit (.int .u8 13), .lit (.int .u8 8), .lit (.int .u8 7), .lit (.int .u8 6)]
def laid_pub_tokenroad_pub_natsserver_server_avl_ErrBadEncoding {H : Type} : DataW H := .iface "*errors.errorString" (.ptr (.agg [.lit (.string [115, 115, 58, 32, 98, 97, 100, 32, 101, 110, 99, 111, 100, 105, 110, 103])]))
def laid_pub_tokenroad_pub_natsserver_server_avl_ErrBadVersion {H : Type} : DataW H := .iface "*errors.errorString" (.ptr (.agg [.lit (.string [115, 115, 58, 32, 98, 97, 100, 32, 118, 101, 114, 115, 105, 111, 110])]))

/-- 'laws.FnSetFirst': WHATEVER THE INPUT: true; the input reads as it did. -/
def fnSetFirstSpec : ChangeSpec := { name := "fnSetFirst", fn := fun _ => fun
  | [d1, d2] => { results := [.lit (.bool true)], args := [d1, d2] }
  | _ => none }
def fnSetFirstRow : OpenClaim := { program := "ytjhdnapgdajllaadoor", sum := "5271be071db7ec2a8ebd86e59d5c6e2b482732af5dc4fcc14e1e1954e40244e1", func := "pub-tokenroad/laws.FnSetFirst", spec := "fnSetFirst", unfollowed := true, recurses := true, named := ["math/bits.deBruijn64tab"], apart := false, laid := [("math/bits.deBruijn64tab", laid_math_bits_deBruijn64tab)] }
def FnSetFirstSaid : Prop := fnSetFirstRow.holds Tryd.pinned (OpenSpec.ofChange fnSetFirstSpec)

/-- ITS FALSE NEIGHBOUR: 'it returns false'. Refute it at one input. -/
def fnSetFirstWrong : ChangeSpec := { name := "fnSetFirst", fn := fun _ => fun
  | [d1, d2] => { results := [.lit (.bool false)], args := [d1, d2] }
  | _ => none }
def FnSetFirstWrongFalsely : Prop := fnSetFirstRow.holds Tryd.pinned (OpenSpec.ofChange fnSetFirstWrong)

/-- 'laws.FnSetShape': WHATEVER THE INPUT: true; the input reads as it did. -/
def fnSetShapeSpec : ChangeSpec := { name := "fnSetShape", fn := fun _ => fun
  | [d] => { results := [.lit (.bool true)], args := [d] }
  | _ => none }
def fnSetShapeRow : OpenClaim := { program := "ytjhdnapgdajllaadoor", sum := "5271be071db7ec2a8ebd86e59d5c6e2b482732af5dc4fcc14e1e1954e40244e1", func := "pub-tokenroad/laws.FnSetShape", spec := "fnSetShape", unfollowed := true, recurses := true, named := ["math/bits.deBruijn64tab"], apart := false, laid := [("math/bits.deBruijn64tab", laid_math_bits_deBruijn64tab)] }
def FnSetShapeSaid : Prop := fnSetShapeRow.holds Tryd.pinned (OpenSpec.ofChange fnSetShapeSpec)

/-- ITS FALSE NEIGHBOUR: 'it returns false'. Refute it at one input. -/
def fnSetShapeWrong : ChangeSpec := { name := "fnSetShape", fn := fun _ => fun
  | [d] => { results := [.lit (.bool false)], args := [d] }
  | _ => none }
def FnSetShapeWrongFalsely : Prop := fnSetShapeRow.holds Tryd.pinned (OpenSpec.ofChange fnSetShapeWrong)

/-- 'laws.FnSetClone': WHATEVER THE INPUT: true; the input reads as it did. -/
def fnSetCloneSpec : ChangeSpec := { name := "fnSetClone", fn := fun _ => fun
  | [d1, d2] => { results := [.lit (.bool true)], args := [d1, d2] }
  | _ => none }
def fnSetCloneRow : OpenClaim := { program := "ytjhdnapgdajllaadoor", sum := "5271be071db7ec2a8ebd86e59d5c6e2b482732af5dc4fcc14e1e1954e40244e1", func := "pub-tokenroad/laws.FnSetClone", spec := "fnSetClone", unfollowed := true, recurses := true, named := ["math/bits.deBruijn64tab"], apart := false, laid := [("math/bits.deBruijn64tab", laid_math_bits_deBruijn64tab)] }
def FnSetCloneSaid : Prop := fnSetCloneRow.holds Tryd.pinned (OpenSpec.ofChange fnSetCloneSpec)

/-- ITS FALSE NEIGHBOUR: 'it returns false'. Refute it at one input. -/
def fnSetCloneWrong : ChangeSpec := { name := "fnSetClone", fn := fun _ => fun
  | [d1, d2] => { results := [.lit (.bool false)], args := [d1, d2] }
  | _ => none }
def FnSetCloneWrongFalsely : Prop := fnSetCloneRow.holds Tryd.pinned (OpenSpec.ofChange fnSetCloneWrong)

/-- 'laws.FnSetState': WHATEVER THE INPUT: true; the input reads as it did. -/
def fnSetStateSpec : ChangeSpec := { name := "fnSetState", fn := fun _ => fun
  | [d] => { results := [.lit (.bool true)], args := [d] }
  | _ => none }
def fnSetStateRow : OpenClaim := { program := "ytjhdnapgdajllaadoor", sum := "5271be071db7ec2a8ebd86e59d5c6e2b482732af5dc4fcc14e1e1954e40244e1", func := "pub-tokenroad/laws.FnSetState", spec := "fnSetState", unfollowed := true, recurses := true, named := ["math/bits.deBruijn64tab"], apart := false, laid := [("math/bits.deBruijn64tab", laid_math_bits_deBruijn64tab)] }
def FnSetStateSaid : Prop := fnSetStateRow.holds Tryd.pinned (OpenSpec.ofChange fnSetStateSpec)

/-- ITS FALSE NEIGHBOUR: 'it returns false'. Refute it at one input. -/
def fnSetStateWrong : ChangeSpec := { name := "fnSetState", fn := fun _ => fun
  | [d] => { results := [.lit (.bool false)], args := [d] }
  | _ => none }
def FnSetStateWrongFalsely : Prop := fnSetStateRow.holds Tryd.pinned (OpenSpec.ofChange fnSetStateWrong)

/-- 'laws.FnSetDecode': WHATEVER THE INPUT: true; the input reads as it did. -/
def fnSetDecodeSpec : ChangeSpec := { name := "fnSetDecode", fn := fun _ => fun
  | [d] => { results := [.lit (.bool true)], args := [d] }
  | _ => none }
def fnSetDecodeRow : OpenClaim := { program := "ytjhdnapgdajllaadoor", sum := "5271be071db7ec2a8ebd86e59d5c6e2b482732af5dc4fcc14e1e1954e40244e1", func := "pub-tokenroad/laws.FnSetDecode", spec := "fnSetDecode", unfollowed := true, recurses := true, named := ["math/bits.deBruijn64tab", "pub-tokenroad/pub/natsserver/server/avl.ErrBadEncoding", "pub-tokenroad/pub/natsserver/server/avl.ErrBadVersion", "encoding/binary.LittleEndian"], apart := false, laid := [("math/bits.deBruijn64tab", laid_math_bits_deBruijn64tab), ("pub-tokenroad/pub/natsserver/server/avl.ErrBadEncoding", laid_pub_tokenroad_pub_natsserver_server_avl_ErrBadEncoding), ("pub-tokenroad/pub/natsserver/server/avl.ErrBadVersion", laid_pub_tokenroad_pub_natsserver_server_avl_ErrBadVersion)] }
def FnSetDecodeSaid : Prop := fnSetDecodeRow.holds Tryd.pinned (OpenSpec.ofChange fnSetDecodeSpec)

/-- ITS FALSE NEIGHBOUR: 'it returns false'. Refute it at one input. -/
def fnSetDecodeWrong : ChangeSpec := { name := "fnSetDecode", fn := fun _ => fun
  | [d] => { results := [.lit (.bool false)], args := [d] }
  | _ => none }
def FnSetDecodeWrongFalsely : Prop := fnSetDecodeRow.holds Tryd.pinned (OpenSpec.ofChange fnSetDecodeWrong)

/-- 'laws.FnSetBack': WHATEVER THE INPUT: true; the input reads as it did. -/
def fnSetBackSpec : ChangeSpec := { name := "fnSetBack", fn := fun _ => fun
  | [d1, d2] => { results := [.lit (.bool true)], args := [d1, d2] }
  | _ => none }
def fnSetBackRow : OpenClaim := { program := "ytjhdnapgdajllaadoor", sum := "5271be071db7ec2a8ebd86e59d5c6e2b482732af5dc4fcc14e1e1954e40244e1", func := "pub-tokenroad/laws.FnSetBack", spec := "fnSetBack", unfollowed := true, recurses := true, named := ["math/bits.deBruijn64tab", "encoding/binary.LittleEndian", "pub-tokenroad/pub/natsserver/server/avl.ErrBadEncoding", "pub-tokenroad/pub/natsserver/server/avl.ErrBadVersion"], apart := false, laid := [("math/bits.deBruijn64tab", laid_math_bits_deBruijn64tab), ("pub-tokenroad/pub/natsserver/server/avl.ErrBadEncoding", laid_pub_tokenroad_pub_natsserver_server_avl_ErrBadEncoding), ("pub-tokenroad/pub/natsserver/server/avl.ErrBadVersion", laid_pub_tokenroad_pub_natsserver_server_avl_ErrBadVersion)] }
def FnSetBackSaid : Prop := fnSetBackRow.holds Tryd.pinned (OpenSpec.ofChange fnSetBackSpec)

/-- ITS FALSE NEIGHBOUR: 'it returns false'. Refute it at one input. -/
def fnSetBackWrong : ChangeSpec := { name := "fnSetBack", fn := fun _ => fun
  | [d1, d2] => { results := [.lit (.bool false)], args := [d1, d2] }
  | _ => none }
def FnSetBackWrongFalsely : Prop := fnSetBackRow.holds Tryd.pinned (OpenSpec.ofChange fnSetBackWrong)

/-- 'laws.FnSetUnion': WHATEVER THE INPUT: true; the input reads as it did. -/
def fnSetUnionSpec : ChangeSpec := { name := "fnSetUnion", fn := fun _ => fun
  | [d1, d2, d3] => { results := [.lit (.bool true)], args := [d1, d2, d3] }
  | _ => none }
def fnSetUnionRow : OpenClaim := { program := "ytjhdnapgdajllaadoor", sum := "5271be071db7ec2a8ebd86e59d5c6e2b482732af5dc4fcc14e1e1954e40244e1", func := "pub-tokenroad/laws.FnSetUnion", spec := "fnSetUnion", unfollowed := true, recurses := true, named := ["math/bits.deBruijn64tab"], apart := false, laid := [("math/bits.deBruijn64tab", laid_math_bits_deBruijn64tab)] }
def FnSetUnionSaid : Prop := fnSetUnionRow.holds Tryd.pinned (OpenSpec.ofChange fnSetUnionSpec)

/-- ITS FALSE NEIGHBOUR: 'it returns false'. Refute it at one input. -/
def fnSetUnionWrong : ChangeSpec := { name := "fnSetUnion", fn := fun _ => fun
  | [d1, d2, d3] => { results := [.lit (.bool false)], args := [d1, d2, d3] }
  | _ => none }
def FnSetUnionWrongFalsely : Prop := fnSetUnionRow.holds Tryd.pinned (OpenSpec.ofChange fnSetUnionWrong)

/-- 'laws.FnSetLattice': WHATEVER THE INPUT: true; the input reads as it did. -/
def fnSetLatticeSpec : ChangeSpec := { name := "fnSetLattice", fn := fun _ => fun
  | [d1, d2, d3] => { results := [.lit (.bool true)], args := [d1, d2, d3] }
  | _ => none }
def fnSetLatticeRow : OpenClaim := { program := "ytjhdnapgdajllaadoor", sum := "5271be071db7ec2a8ebd86e59d5c6e2b482732af5dc4fcc14e1e1954e40244e1", func := "pub-tokenroad/laws.FnSetLattice", spec := "fnSetLattice", unfollowed := true, recurses := true, named := ["math/bits.deBruijn64tab"], apart := false, laid := [("math/bits.deBruijn64tab", laid_math_bits_deBruijn64tab)] }
def FnSetLatticeSaid : Prop := fnSetLatticeRow.holds Tryd.pinned (OpenSpec.ofChange fnSetLatticeSpec)

/-- ITS FALSE NEIGHBOUR: 'it returns false'. Refute it at one input. -/
def fnSetLatticeWrong : ChangeSpec := { name := "fnSetLattice", fn := fun _ => fun
  | [d1, d2, d3] => { results := [.lit (.bool false)], args := [d1, d2, d3] }
  | _ => none }
def FnSetLatticeWrongFalsely : Prop := fnSetLatticeRow.holds Tryd.pinned (OpenSpec.ofChange fnSetLatticeWrong)

/- THE SECOND FORM. 'bulk': how many values and letters a reading holds, each counted each time it is reached (what is shared counts as often as it is met; a slice's spare places count too). A statement '..UptoSaid' is the law's where the arguments, and the package variables that the reading takes, are together of bulk at most 1048576: NARROWER than '..Said'. Prove '..Said' where nothing that the law and all that it calls make is longer than what came in: it says more and counts as full. Else prove '..UptoSaid'. A law counts once. -/
mutual
def uptoBulk {H : Type} : DataW H → Nat
  | .lit (.string bytes) => bytes.length + 1
  | .lit _ => 1
  | .nil => 1
  | .ptr d => uptoBulk d + 1
  | .slice elems spare => uptoBulkAll elems + uptoBulkAll spare + 1
  | .agg parts => uptoBulkAll parts + 1
  | .iface _ d => uptoBulk d + 1
  | .map entries => uptoBulkEntries entries + 1
  | .held _ => 1
def uptoBulkAll {H : Type} : List (DataW H) → Nat
  | [] => 0
  | d :: r => uptoBulk d + uptoBulkAll r
def uptoBulkEntries {H : Type} : List (Lit × DataW H) → Nat
  | [] => 0
  | x :: r => uptoBulkEntry x + uptoBulkEntries r
def uptoBulkEntry {H : Type} : Lit × DataW H → Nat
  | (.string bytes, d) => bytes.length + uptoBulk d + 1
  | (_, d) => uptoBulk d + 1
 end
def uptoSmall : (H : Type) → List (DataW H) → Bool := fun _ ds => decide (uptoBulkAll ds ≤ 1048576)
def OpenSpec.upto (s : _root_.Go.ChangeSpec) : _root_.Go.OpenSpec := { _root_.Go.OpenSpec.ofChange s with cond := some uptoSmall }

/-- 'laws.FnSetFirst', WHERE WHAT IT READS IS OF BULK AT MOST 1048576: true; the input reads as it did. -/
def fnSetFirstUptoRow : OpenClaim := { program := "ytjhdnapgdajllaadoor", sum := "5271be071db7ec2a8ebd86e59d5c6e2b482732af5dc4fcc14e1e1954e40244e1", func := "pub-tokenroad/laws.FnSetFirst", spec := "fnSetFirst", unfollowed := true, recurses := true, named := ["math/bits.deBruijn64tab"], apart := false, laid := [("math/bits.deBruijn64tab", laid_math_bits_deBruijn64tab)], narrowed := true }
def FnSetFirstUptoSaid : Prop := fnSetFirstUptoRow.holds Tryd.pinned (OpenSpec.upto fnSetFirstSpec)

/-- 'laws.FnSetShape', WHERE WHAT IT READS IS OF BULK AT MOST 1048576: true; the input reads as it did. -/
def fnSetShapeUptoRow : OpenClaim := { program := "ytjhdnapgdajllaadoor", sum := "5271be071db7ec2a8ebd86e59d5c6e2b482732af5dc4fcc14e1e1954e40244e1", func := "pub-tokenroad/laws.FnSetShape", spec := "fnSetShape", unfollowed := true, recurses := true, named := ["math/bits.deBruijn64tab"], apart := false, laid := [("math/bits.deBruijn64tab", laid_math_bits_deBruijn64tab)], narrowed := true }
def FnSetShapeUptoSaid : Prop := fnSetShapeUptoRow.holds Tryd.pinned (OpenSpec.upto fnSetShapeSpec)

/-- 'laws.FnSetClone', WHERE WHAT IT READS IS OF BULK AT MOST 1048576: true; the input reads as it did. -/
def fnSetCloneUptoRow : OpenClaim := { program := "ytjhdnapgdajllaadoor", sum := "5271be071db7ec2a8ebd86e59d5c6e2b482732af5dc4fcc14e1e1954e40244e1", func := "pub-tokenroad/laws.FnSetClone", spec := "fnSetClone", unfollowed := true, recurses := true, named := ["math/bits.deBruijn64tab"], apart := false, laid := [("math/bits.deBruijn64tab", laid_math_bits_deBruijn64tab)], narrowed := true }
def FnSetCloneUptoSaid : Prop := fnSetCloneUptoRow.holds Tryd.pinned (OpenSpec.upto fnSetCloneSpec)

/-- 'laws.FnSetState', WHERE WHAT IT READS IS OF BULK AT MOST 1048576: true; the input reads as it did. -/
def fnSetStateUptoRow : OpenClaim := { program := "ytjhdnapgdajllaadoor", sum := "5271be071db7ec2a8ebd86e59d5c6e2b482732af5dc4fcc14e1e1954e40244e1", func := "pub-tokenroad/laws.FnSetState", spec := "fnSetState", unfollowed := true, recurses := true, named := ["math/bits.deBruijn64tab"], apart := false, laid := [("math/bits.deBruijn64tab", laid_math_bits_deBruijn64tab)], narrowed := true }
def FnSetStateUptoSaid : Prop := fnSetStateUptoRow.holds Tryd.pinned (OpenSpec.upto fnSetStateSpec)

/-- 'laws.FnSetDecode', WHERE WHAT IT READS IS OF BULK AT MOST 1048576: true; the input reads as it did. -/
def fnSetDecodeUptoRow : OpenClaim := { program := "ytjhdnapgdajllaadoor", sum := "5271be071db7ec2a8ebd86e59d5c6e2b482732af5dc4fcc14e1e1954e40244e1", func := "pub-tokenroad/laws.FnSetDecode", spec := "fnSetDecode", unfollowed := true, recurses := true, named := ["math/bits.deBruijn64tab", "pub-tokenroad/pub/natsserver/server/avl.ErrBadEncoding", "pub-tokenroad/pub/natsserver/server/avl.ErrBadVersion", "encoding/binary.LittleEndian"], apart := false, laid := [("math/bits.deBruijn64tab", laid_math_bits_deBruijn64tab), ("pub-tokenroad/pub/natsserver/server/avl.ErrBadEncoding", laid_pub_tokenroad_pub_natsserver_server_avl_ErrBadEncoding), ("pub-tokenroad/pub/natsserver/server/avl.ErrBadVersion", laid_pub_tokenroad_pub_natsserver_server_avl_ErrBadVersion)], narrowed := true }
def FnSetDecodeUptoSaid : Prop := fnSetDecodeUptoRow.holds Tryd.pinned (OpenSpec.upto fnSetDecodeSpec)

/-- 'laws.FnSetBack', WHERE WHAT IT READS IS OF BULK AT MOST 1048576: true; the input reads as it did. -/
def fnSetBackUptoRow : OpenClaim := { program := "ytjhdnapgdajllaadoor", sum := "5271be071db7ec2a8ebd86e59d5c6e2b482732af5dc4fcc14e1e1954e40244e1", func := "pub-tokenroad/laws.FnSetBack", spec := "fnSetBack", unfollowed := true, recurses := true, named := ["math/bits.deBruijn64tab", "encoding/binary.LittleEndian", "pub-tokenroad/pub/natsserver/server/avl.ErrBadEncoding", "pub-tokenroad/pub/natsserver/server/avl.ErrBadVersion"], apart := false, laid := [("math/bits.deBruijn64tab", laid_math_bits_deBruijn64tab), ("pub-tokenroad/pub/natsserver/server/avl.ErrBadEncoding", laid_pub_tokenroad_pub_natsserver_server_avl_ErrBadEncoding), ("pub-tokenroad/pub/natsserver/server/avl.ErrBadVersion", laid_pub_tokenroad_pub_natsserver_server_avl_ErrBadVersion)], narrowed := true }
def FnSetBackUptoSaid : Prop := fnSetBackUptoRow.holds Tryd.pinned (OpenSpec.upto fnSetBackSpec)

/-- 'laws.FnSetUnion', WHERE WHAT IT READS IS OF BULK AT MOST 1048576: true; the input reads as it did. -/
def fnSetUnionUptoRow : OpenClaim := { program := "ytjhdnapgdajllaadoor", sum := "5271be071db7ec2a8ebd86e59d5c6e2b482732af5dc4fcc14e1e1954e40244e1", func := "pub-tokenroad/laws.FnSetUnion", spec := "fnSetUnion", unfollowed := true, recurses := true, named := ["math/bits.deBruijn64tab"], apart := false, laid := [("math/bits.deBruijn64tab", laid_math_bits_deBruijn64tab)], narrowed := true }
def FnSetUnionUptoSaid : Prop := fnSetUnionUptoRow.holds Tryd.pinned (OpenSpec.upto fnSetUnionSpec)

/-- 'laws.FnSetLattice', WHERE WHAT IT READS IS OF BULK AT MOST 1048576: true; the input reads as it did. -/
def fnSetLatticeUptoRow : OpenClaim := { program := "ytjhdnapgdajllaadoor", sum := "5271be071db7ec2a8ebd86e59d5c6e2b482732af5dc4fcc14e1e1954e40244e1", func := "pub-tokenroad/laws.FnSetLattice", spec := "fnSetLattice", unfollowed := true, recurses := true, named := ["math/bits.deBruijn64tab"], apart := false, laid := [("math/bits.deBruijn64tab", laid_math_bits_deBruijn64tab)], narrowed := true }
def FnSetLatticeUptoSaid : Prop := fnSetLatticeUptoRow.holds Tryd.pinned (OpenSpec.upto fnSetLatticeSpec)

end Rows
end Go.Proofs.YtjhdnapgdajllaaDoor
