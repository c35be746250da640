/-
  NARROWER THAN 'FOR EVERY INPUT', by the rows' own cells (each row's printed sentence says how): FnWheelRun: laid · FnWheelDue: laid · FnWheelBack: laid.
  DERIVED. THE GIVEN ROWS OF THIS SEAT. 3 by the template 'for every input the law returns true; each argument reads behind the call as it read before'; 0 by the template 'total and deterministic' (their statements: YtnkjlfadegjjoaaDoorTotals.lean).
  GIVEN WITH THE SEED: the statements are not yours to turn. If you find one false, say at which input.
  Laid BY PROGRAM, IN A SANDBOX (cutbox-rows.mjs): the forced cells as the released guide's own fill.sh prints them over the translation 3668995e63d60e14… (all of the seat's roots in one cut). By AI agents, Wed Nov 11 2026. No macro, syntax, notation, axiom, sorry.
-/
import Derived.Test.YtnkjlfadegjjoaaDoorChecked
import GoSem.Claim
import GoSem.ClaimJoined
import GoSem.ClaimMapViews
import Derived.JoinedTies
import Derived.KernelRfl
namespace Go.Proofs.YtnkjlfadegjjoaaDoor
/- THE CELL 'sum', in the pinned program and in every row, IS THE sha256 OF THE DUMP (.gsa) THAT YtnkjlfadegjjoaaDoorProg.lean LOADS. Nothing in Lean hashes anything: it is a label: what it is worth is what the hold of that sum in a sandbox is worth. -/
noncomputable def Tryd.pinned : Pinned := { name := "ytnkjlfadegjjoaadoor", sum := "3668995e63d60e148ed15442199c2b6ef30de599718f7eec81bb35a9e05e1883", checked := Tryd.checked }
namespace Rows
def none {H : Type} : Left H := { results := [], args := [] }

/- WHAT THE LISTED PACKAGE-LEVEL VARIABLES READ AS WHEN THE CALL BEGINS. Each datum BY PROGRAM (the guide's laid-datum.mjs) off the statement by which the dump's own 'gosem.cut.vars' lays the variable. In a bare row this is a premise. The card (YtnkjlfadegjjoaaDoorCards.lean) ties it to the program's text. -/
def laid_pub_tokenroad_pub_natsserver_server_thw_ErrTaskNotFound {H : Type} : DataW H := .iface "*errors.errorString" (.ptr (.agg [.lit (.string [116, 104, 119, 58, 32, 116, 97, 115, 107, 32, 110, 111, 116, 32, 102, 111, 117, 110, 100])]))
def laid_io_ErrShortBuffer {H : Type} : DataW H := .iface "*errors.errorString" (.ptr (.agg [.lit (.string [115, 104, 111, 114, 116, 32, 98, 117, 102, 102, 101, 114])]))
def laid_io_ErrUnexpectedEOF {H : Type} : DataW H := .iface "*errors.errorString" (.ptr (.agg [.lit (.string [117, 110, 101, 120, 112, 101, 99, 116, 101, 100, 32, 69, 79, 70])]))
def laid_pub_tokenroad_pub_natsserver_server_thw_ErrInvalidVersion {H : Type} : DataW H := .iface "*errors.errorString" (.ptr (.agg [.lit (.string [116, 104, 119, 58, 32, 101, 110, 99, 111, 100, 101, 100, 32, 118, 101, 114, 115, 105, 111, 110, 32, 110, 111, 116, 32, 107, 110, 111, 119, 110])]))

/-- 'laws.FnWheelRun': WHATEVER THE INPUT: true; the input reads as it did. -/
def fnWheelRunSpec : ChangeSpec := { name := "fnWheelRun", fn := fun _ => fun
  | [d] => { results := [.lit (.bool true)], args := [d] }
  | _ => none }
def fnWheelRunRow : OpenClaim := { program := "ytnkjlfadegjjoaadoor", sum := "3668995e63d60e148ed15442199c2b6ef30de599718f7eec81bb35a9e05e1883", func := "pub-tokenroad/laws.FnWheelRun", spec := "fnWheelRun", unfollowed := true, recurses := true, named := ["pub-tokenroad/pub/natsserver/server/thw.ErrTaskNotFound"], apart := false, laid := [("pub-tokenroad/pub/natsserver/server/thw.ErrTaskNotFound", laid_pub_tokenroad_pub_natsserver_server_thw_ErrTaskNotFound)] }
def FnWheelRunSaid : Prop := fnWheelRunRow.holds Tryd.pinned (OpenSpec.ofChange fnWheelRunSpec)

/-- ITS FALSE NEIGHBOUR: 'it returns false'. Refute it at one input. -/
def fnWheelRunWrong : ChangeSpec := { name := "fnWheelRun", fn := fun _ => fun
  | [d] => { results := [.lit (.bool false)], args := [d] }
  | _ => none }
def FnWheelRunWrongFalsely : Prop := fnWheelRunRow.holds Tryd.pinned (OpenSpec.ofChange fnWheelRunWrong)

/-- 'laws.FnWheelDue': WHATEVER THE INPUT: true; the input reads as it did. -/
def fnWheelDueSpec : ChangeSpec := { name := "fnWheelDue", fn := fun _ => fun
  | [d1, d2] => { results := [.lit (.bool true)], args := [d1, d2] }
  | _ => none }
def fnWheelDueRow : OpenClaim := { program := "ytnkjlfadegjjoaadoor", sum := "3668995e63d60e148ed15442199c2b6ef30de599718f7eec81bb35a9e05e1883", func := "pub-tokenroad/laws.FnWheelDue", spec := "fnWheelDue", unfollowed := true, recurses := true, named := ["pub-tokenroad/pub/natsserver/server/thw.ErrTaskNotFound"], apart := false, laid := [("pub-tokenroad/pub/natsserver/server/thw.ErrTaskNotFound", laid_pub_tokenroad_pub_natsserver_server_thw_ErrTaskNotFound)] }
def FnWheelDueSaid : Prop := fnWheelDueRow.holds Tryd.pinned (OpenSpec.ofChange fnWheelDueSpec)

/-- ITS FALSE NEIGHBOUR: 'it returns false'. Refute it at one input. -/
def fnWheelDueWrong : ChangeSpec := { name := "fnWheelDue", fn := fun _ => fun
  | [d1, d2] => { results := [.lit (.bool false)], args := [d1, d2] }
  | _ => none }
def FnWheelDueWrongFalsely : Prop := fnWheelDueRow.holds Tryd.pinned (OpenSpec.ofChange fnWheelDueWrong)

/-- 'laws.FnWheelBack': WHATEVER THE INPUT: true; the input reads as it did. -/
def fnWheelBackSpec : ChangeSpec := { name := "fnWheelBack", fn := fun _ => fun
  | [d1, d2, d3] => { results := [.lit (.bool true)], args := [d1, d2, d3] }
  | _ => none }
def fnWheelBackRow : OpenClaim := { program := "ytnkjlfadegjjoaadoor", sum := "3668995e63d60e148ed15442199c2b6ef30de599718f7eec81bb35a9e05e1883", func := "pub-tokenroad/laws.FnWheelBack", spec := "fnWheelBack", unfollowed := true, recurses := true, named := ["pub-tokenroad/pub/natsserver/server/thw.ErrTaskNotFound", "encoding/binary.LittleEndian", "io.ErrShortBuffer", "pub-tokenroad/pub/natsserver/server/thw.ErrInvalidVersion", "io.ErrUnexpectedEOF"], apart := false, laid := [("io.ErrShortBuffer", laid_io_ErrShortBuffer), ("io.ErrUnexpectedEOF", laid_io_ErrUnexpectedEOF), ("pub-tokenroad/pub/natsserver/server/thw.ErrTaskNotFound", laid_pub_tokenroad_pub_natsserver_server_thw_ErrTaskNotFound), ("pub-tokenroad/pub/natsserver/server/thw.ErrInvalidVersion", laid_pub_tokenroad_pub_natsserver_server_thw_ErrInvalidVersion)] }
def FnWheelBackSaid : Prop := fnWheelBackRow.holds Tryd.pinned (OpenSpec.ofChange fnWheelBackSpec)

/-- ITS FALSE NEIGHBOUR: 'it returns false'. Refute it at one input. -/
def fnWheelBackWrong : ChangeSpec := { name := "fnWheelBack", fn := fun _ => fun
  | [d1, d2, d3] => { results := [.lit (.bool false)], args := [d1, d2, d3] }
  | _ => none }
def FnWheelBackWrongFalsely : Prop := fnWheelBackRow.holds Tryd.pinned (OpenSpec.ofChange fnWheelBackWrong)

/- THE SECOND FORM. 'bulk': how many values and letters a reading holds, each counted each time it is reached (what is shared counts as often as it is met; a slice's spare places count too). A statement '..UptoSaid' is the law's where the arguments, and the package variables that the reading takes, are together of bulk at most 1048576: NARROWER than '..Said'. Prove '..Said' where nothing that the law and all that it calls make is longer than what came in: it says more and counts as full. Else prove '..UptoSaid'. A law counts once. -/
mutual
def uptoBulk {H : Type} : DataW H → Nat
  | .lit (.string bytes) => bytes.length + 1
  | .lit _ => 1
  | .nil => 1
  | .ptr d => uptoBulk d + 1
  | .slice elems spare => uptoBulkAll elems + uptoBulkAll spare + 1
  | .agg parts => uptoBulkAll parts + 1
  | .iface _ d => uptoBulk d + 1
  | .map entries => uptoBulkEntries entries + 1
  | .held _ => 1
def uptoBulkAll {H : Type} : List (DataW H) → Nat
  | [] => 0
  | d :: r => uptoBulk d + uptoBulkAll r
def uptoBulkEntries {H : Type} : List (Lit × DataW H) → Nat
  | [] => 0
  | x :: r => uptoBulkEntry x + uptoBulkEntries r
def uptoBulkEntry {H : Type} : Lit × DataW H → Nat
  | (.string bytes, d) => bytes.length + uptoBulk d + 1
  | (_, d) => uptoBulk d + 1
 end
def uptoSmall : (H : Type) → List (DataW H) → Bool := fun _ ds => decide (uptoBulkAll ds ≤ 1048576)
def OpenSpec.upto (s : _root_.Go.ChangeSpec) : _root_.Go.OpenSpec := { _root_.Go.OpenSpec.ofChange s with cond := some uptoSmall }

/-- 'laws.FnWheelRun', WHERE WHAT IT READS IS OF BULK AT MOST 1048576: true; the input reads as it did. -/
def fnWheelRunUptoRow : OpenClaim := { program := "ytnkjlfadegjjoaadoor", sum := "3668995e63d60e148ed15442199c2b6ef30de599718f7eec81bb35a9e05e1883", func := "pub-tokenroad/laws.FnWheelRun", spec := "fnWheelRun", unfollowed := true, recurses := true, named := ["pub-tokenroad/pub/natsserver/server/thw.ErrTaskNotFound"], apart := false, laid := [("pub-tokenroad/pub/natsserver/server/thw.ErrTaskNotFound", laid_pub_tokenroad_pub_natsserver_server_thw_ErrTaskNotFound)], narrowed := true }
def FnWheelRunUptoSaid : Prop := fnWheelRunUptoRow.holds Tryd.pinned (OpenSpec.upto fnWheelRunSpec)

/-- 'laws.FnWheelDue', WHERE WHAT IT READS IS OF BULK AT MOST 1048576: true; the input reads as it did. -/
def fnWheelDueUptoRow : OpenClaim := { program := "ytnkjlfadegjjoaadoor", sum := "3668995e63d60e148ed15442199c2b6ef30de599718f7eec81bb35a9e05e1883", func := "pub-tokenroad/laws.FnWheelDue", spec := "fnWheelDue", unfollowed := true, recurses := true, named := ["pub-tokenroad/pub/natsserver/server/thw.ErrTaskNotFound"], apart := false, laid := [("pub-tokenroad/pub/natsserver/server/thw.ErrTaskNotFound", laid_pub_tokenroad_pub_natsserver_server_thw_ErrTaskNotFound)], narrowed := true }
def FnWheelDueUptoSaid : Prop := fnWheelDueUptoRow.holds Tryd.pinned (OpenSpec.upto fnWheelDueSpec)

/-- 'laws.FnWheelBack', WHERE WHAT IT READS IS OF BULK AT MOST 1048576: true; the input reads as it did. -/
def fnWheelBackUptoRow : OpenClaim := { program := "ytnkjlfadegjjoaadoor", sum := "3668995e63d60e148ed15442199c2b6ef30de599718f7eec81bb35a9e05e1883", func := "pub-tokenroad/laws.FnWheelBack", spec := "fnWheelBack", unfollowed := true, recurses := true, named := ["pub-tokenroad/pub/natsserver/server/thw.ErrTaskNotFound", "encoding/binary.LittleEndian", "io.ErrShortBuffer", "pub-tokenroad/pub/natsserver/server/thw.ErrInvalidVersion", "io.ErrUnexpectedEOF"], apart := false, laid := [("io.ErrShortBuffer", laid_io_ErrShortBuffer), ("io.ErrUnexpectedEOF", laid_io_ErrUnexpectedEOF), ("pub-tokenroad/pub/natsserver/server/thw.ErrTaskNotFound", laid_pub_tokenroad_pub_natsserver_server_thw_ErrTaskNotFound), ("pub-tokenroad/pub/natsserver/server/thw.ErrInvalidVersion", laid_pub_tokenroad_pub_natsserver_server_thw_ErrInvalidVersion)], narrowed := true }
def FnWheelBackUptoSaid : Prop := fnWheelBackUptoRow.holds Tryd.pinned (OpenSpec.upto fnWheelBackSpec)

end Rows
end Go.Proofs.YtnkjlfadegjjoaaDoor
