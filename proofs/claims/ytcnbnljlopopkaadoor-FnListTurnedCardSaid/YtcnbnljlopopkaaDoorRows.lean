/-
  NARROWER THAN 'FOR EVERY INPUT', by the rows' own cells (each row's printed sentence says how): FnListStarting: laid · FnListSingle: laid · FnListMatch: laid · FnListTurned: laid.
  DERIVED. THE GIVEN ROWS OF THIS SEAT. 4 by the template 'for every input the law returns true; each argument reads behind the call as it read before'; 0 by the template 'total and deterministic' (their statements: YtcnbnljlopopkaaDoorTotals.lean).
  GIVEN WITH THE SEED: the statements are not yours to turn. If you find one false, say at which input.
  Laid BY PROGRAM, IN A SANDBOX (cutbox-rows.mjs): the forced cells as the released guide's own fill.sh prints them over the translation e7a6ee9a4c0a6b24… (all of the seat's roots in one cut). By AI agents, Wed Nov 11 2026. No macro, syntax, notation, axiom, sorry.
-/
import Derived.Test.YtcnbnljlopopkaaDoorChecked
import GoSem.Claim
import GoSem.ClaimJoined
import GoSem.ClaimMapViews
import Derived.JoinedTies
import Derived.KernelRfl
namespace Go.Proofs.YtcnbnljlopopkaaDoor
/- THE CELL 'sum', in the pinned program and in every row, IS THE sha256 OF THE DUMP (.gsa) THAT YtcnbnljlopopkaaDoorProg.lean LOADS. Nothing in Lean hashes anything: it is a label: what it is worth is what the hold of that sum in a sandbox is worth. -/
noncomputable def Tryd.pinned : Pinned := { name := "ytcnbnljlopopkaadoor", sum := "e7a6ee9a4c0a6b246e11079095f11bc4a067ff6667fb194887c9a03add1644ae", checked := Tryd.checked }
namespace Rows
def none {H : Type} : Left H := { results := [], args := [] }

/- WHAT THE LISTED PACKAGE-LEVEL VARIABLES READ AS WHEN THE CALL BEGINS. Each datum BY PROGRAM (the guide's laid-datum.mjs) off the statement by which the dump's own 'gosem.cut.vars' lays the variable. In a bare row this is a premise. The card (YtcnbnljlopopkaaDoorCards.lean) ties it to the program's text. -/
def laid_pub_tokenroad_pub_natsserver_server_gsl_ErrInvalidSubject {H : Type} : DataW H := .iface "*errors.errorString" (.ptr (.agg [.lit (.string [103, 115, 108, 58, 32, 105, 110, 118, 97, 108, 105, 100, 32, 115, 117, 98, 106, 101, 99, 116])]))
def laid_pub_tokenroad_pub_natsserver_server_gsl_ErrNotFound {H : Type} : DataW H := .iface "*errors.errorString" (.ptr (.agg [.lit (.string [103, 115, 108, 58, 32, 110, 111, 32, 109, 97, 116, 99, 104, 101, 115, 32, 102, 111, 117, 110, 100])]))

/-- 'laws.FnListStarting': WHATEVER THE INPUT: true; the input reads as it did. -/
def fnListStartingSpec : ChangeSpec := { name := "fnListStarting", fn := fun _ => fun
  | [d1, d2] => { results := [.lit (.bool true)], args := [d1, d2] }
  | _ => none }
def fnListStartingRow : OpenClaim := { program := "ytcnbnljlopopkaadoor", sum := "e7a6ee9a4c0a6b246e11079095f11bc4a067ff6667fb194887c9a03add1644ae", func := "pub-tokenroad/laws.FnListStarting", spec := "fnListStarting", inPlace := ["(*sync.RWMutex).Lock", "internal/race.Read", "internal/race.Disable", "(*internal/sync.Mutex).Lock", "sync/atomic.CompareAndSwapInt32", "internal/race.Enable", "internal/race.Acquire", "(*internal/sync.Mutex).lockSlow", "internal/sync.runtime_canSpin", "internal/sync.runtime_doSpin", "internal/sync.throw", "internal/sync.runtime_nanotime", "internal/sync.runtime_SemacquireMutex", "sync/atomic.AddInt32", "sync.runtime_SemacquireRWMutex", "(*sync.RWMutex).Unlock", "internal/race.Release", "internal/race.ReleaseMerge", "sync.fatal", "sync.runtime_Semrelease", "(*internal/sync.Mutex).Unlock", "(*internal/sync.Mutex).unlockSlow", "internal/sync.fatal", "internal/sync.runtime_Semrelease", "(*sync.RWMutex).RLock", "sync.runtime_SemacquireRWMutexR", "(*sync.RWMutex).RUnlock", "(*sync.RWMutex).rUnlockSlow"], recurses := true, named := ["pub-tokenroad/pub/natsserver/server/gsl.ErrInvalidSubject", "pub-tokenroad/pub/natsserver/server/gsl.ErrNotFound"], apart := false, laid := [("pub-tokenroad/pub/natsserver/server/gsl.ErrInvalidSubject", laid_pub_tokenroad_pub_natsserver_server_gsl_ErrInvalidSubject), ("pub-tokenroad/pub/natsserver/server/gsl.ErrNotFound", laid_pub_tokenroad_pub_natsserver_server_gsl_ErrNotFound)] }
def FnListStartingSaid : Prop := fnListStartingRow.holds Tryd.pinned (OpenSpec.ofChange fnListStartingSpec)

/-- ITS FALSE NEIGHBOUR: 'it returns false'. Refute it at one input. -/
def fnListStartingWrong : ChangeSpec := { name := "fnListStarting", fn := fun _ => fun
  | [d1, d2] => { results := [.lit (.bool false)], args := [d1, d2] }
  | _ => none }
def FnListStartingWrongFalsely : Prop := fnListStartingRow.holds Tryd.pinned (OpenSpec.ofChange fnListStartingWrong)

/-- 'laws.FnListSingle': WHATEVER THE INPUT: true; the input reads as it did. -/
def fnListSingleSpec : ChangeSpec := { name := "fnListSingle", fn := fun _ => fun
  | [d] => { results := [.lit (.bool true)], args := [d] }
  | _ => none }
def fnListSingleRow : OpenClaim := { program := "ytcnbnljlopopkaadoor", sum := "e7a6ee9a4c0a6b246e11079095f11bc4a067ff6667fb194887c9a03add1644ae", func := "pub-tokenroad/laws.FnListSingle", spec := "fnListSingle", inPlace := ["(*sync.RWMutex).Lock", "internal/race.Read", "internal/race.Disable", "(*internal/sync.Mutex).Lock", "sync/atomic.CompareAndSwapInt32", "internal/race.Enable", "internal/race.Acquire", "(*internal/sync.Mutex).lockSlow", "internal/sync.runtime_canSpin", "internal/sync.runtime_doSpin", "internal/sync.throw", "internal/sync.runtime_nanotime", "internal/sync.runtime_SemacquireMutex", "sync/atomic.AddInt32", "sync.runtime_SemacquireRWMutex", "(*sync.RWMutex).Unlock", "internal/race.Release", "internal/race.ReleaseMerge", "sync.fatal", "sync.runtime_Semrelease", "(*internal/sync.Mutex).Unlock", "(*internal/sync.Mutex).unlockSlow", "internal/sync.fatal", "internal/sync.runtime_Semrelease", "(*sync.RWMutex).RLock", "sync.runtime_SemacquireRWMutexR", "(*sync.RWMutex).RUnlock", "(*sync.RWMutex).rUnlockSlow"], recurses := true, named := ["pub-tokenroad/pub/natsserver/server/gsl.ErrInvalidSubject", "pub-tokenroad/pub/natsserver/server/gsl.ErrNotFound"], apart := false, laid := [("pub-tokenroad/pub/natsserver/server/gsl.ErrInvalidSubject", laid_pub_tokenroad_pub_natsserver_server_gsl_ErrInvalidSubject), ("pub-tokenroad/pub/natsserver/server/gsl.ErrNotFound", laid_pub_tokenroad_pub_natsserver_server_gsl_ErrNotFound)] }
def FnListSingleSaid : Prop := fnListSingleRow.holds Tryd.pinned (OpenSpec.ofChange fnListSingleSpec)

/-- ITS FALSE NEIGHBOUR: 'it returns false'. Refute it at one input. -/
def fnListSingleWrong : ChangeSpec := { name := "fnListSingle", fn := fun _ => fun
  | [d] => { results := [.lit (.bool false)], args := [d] }
  | _ => none }
def FnListSingleWrongFalsely : Prop := fnListSingleRow.holds Tryd.pinned (OpenSpec.ofChange fnListSingleWrong)

/-- 'laws.FnListMatch': WHATEVER THE INPUT: true; the input reads as it did. -/
def fnListMatchSpec : ChangeSpec := { name := "fnListMatch", fn := fun _ => fun
  | [d1, d2, d3] => { results := [.lit (.bool true)], args := [d1, d2, d3] }
  | _ => none }
def fnListMatchRow : OpenClaim := { program := "ytcnbnljlopopkaadoor", sum := "e7a6ee9a4c0a6b246e11079095f11bc4a067ff6667fb194887c9a03add1644ae", func := "pub-tokenroad/laws.FnListMatch", spec := "fnListMatch", inPlace := ["(*sync.RWMutex).Lock", "internal/race.Read", "internal/race.Disable", "(*internal/sync.Mutex).Lock", "sync/atomic.CompareAndSwapInt32", "internal/race.Enable", "internal/race.Acquire", "(*internal/sync.Mutex).lockSlow", "internal/sync.runtime_canSpin", "internal/sync.runtime_doSpin", "internal/sync.throw", "internal/sync.runtime_nanotime", "internal/sync.runtime_SemacquireMutex", "sync/atomic.AddInt32", "sync.runtime_SemacquireRWMutex", "(*sync.RWMutex).Unlock", "internal/race.Release", "internal/race.ReleaseMerge", "sync.fatal", "sync.runtime_Semrelease", "(*internal/sync.Mutex).Unlock", "(*internal/sync.Mutex).unlockSlow", "internal/sync.fatal", "internal/sync.runtime_Semrelease", "(*sync.RWMutex).RLock", "sync.runtime_SemacquireRWMutexR", "(*sync.RWMutex).RUnlock", "(*sync.RWMutex).rUnlockSlow"], unfollowed := true, recurses := true, named := ["pub-tokenroad/pub/natsserver/server/gsl.ErrInvalidSubject", "pub-tokenroad/pub/natsserver/server/gsl.ErrNotFound"], apart := false, laid := [("pub-tokenroad/pub/natsserver/server/gsl.ErrInvalidSubject", laid_pub_tokenroad_pub_natsserver_server_gsl_ErrInvalidSubject), ("pub-tokenroad/pub/natsserver/server/gsl.ErrNotFound", laid_pub_tokenroad_pub_natsserver_server_gsl_ErrNotFound)] }
def FnListMatchSaid : Prop := fnListMatchRow.holds Tryd.pinned (OpenSpec.ofChange fnListMatchSpec)

/-- ITS FALSE NEIGHBOUR: 'it returns false'. Refute it at one input. -/
def fnListMatchWrong : ChangeSpec := { name := "fnListMatch", fn := fun _ => fun
  | [d1, d2, d3] => { results := [.lit (.bool false)], args := [d1, d2, d3] }
  | _ => none }
def FnListMatchWrongFalsely : Prop := fnListMatchRow.holds Tryd.pinned (OpenSpec.ofChange fnListMatchWrong)

/-- 'laws.FnListTurned': WHATEVER THE INPUT: true; the input reads as it did. -/
def fnListTurnedSpec : ChangeSpec := { name := "fnListTurned", fn := fun _ => fun
  | [d1, d2, d3] => { results := [.lit (.bool true)], args := [d1, d2, d3] }
  | _ => none }
def fnListTurnedRow : OpenClaim := { program := "ytcnbnljlopopkaadoor", sum := "e7a6ee9a4c0a6b246e11079095f11bc4a067ff6667fb194887c9a03add1644ae", func := "pub-tokenroad/laws.FnListTurned", spec := "fnListTurned", inPlace := ["(*sync.RWMutex).Lock", "internal/race.Read", "internal/race.Disable", "(*internal/sync.Mutex).Lock", "sync/atomic.CompareAndSwapInt32", "internal/race.Enable", "internal/race.Acquire", "(*internal/sync.Mutex).lockSlow", "internal/sync.runtime_canSpin", "internal/sync.runtime_doSpin", "internal/sync.throw", "internal/sync.runtime_nanotime", "internal/sync.runtime_SemacquireMutex", "sync/atomic.AddInt32", "sync.runtime_SemacquireRWMutex", "(*sync.RWMutex).Unlock", "internal/race.Release", "internal/race.ReleaseMerge", "sync.fatal", "sync.runtime_Semrelease", "(*internal/sync.Mutex).Unlock", "(*internal/sync.Mutex).unlockSlow", "internal/sync.fatal", "internal/sync.runtime_Semrelease", "(*sync.RWMutex).RLock", "sync.runtime_SemacquireRWMutexR", "(*sync.RWMutex).RUnlock", "(*sync.RWMutex).rUnlockSlow"], unfollowed := true, recurses := true, named := ["pub-tokenroad/pub/natsserver/server/gsl.ErrInvalidSubject", "pub-tokenroad/pub/natsserver/server/gsl.ErrNotFound"], apart := false, laid := [("pub-tokenroad/pub/natsserver/server/gsl.ErrInvalidSubject", laid_pub_tokenroad_pub_natsserver_server_gsl_ErrInvalidSubject), ("pub-tokenroad/pub/natsserver/server/gsl.ErrNotFound", laid_pub_tokenroad_pub_natsserver_server_gsl_ErrNotFound)] }
def FnListTurnedSaid : Prop := fnListTurnedRow.holds Tryd.pinned (OpenSpec.ofChange fnListTurnedSpec)

/-- ITS FALSE NEIGHBOUR: 'it returns false'. Refute it at one input. -/
def fnListTurnedWrong : ChangeSpec := { name := "fnListTurned", fn := fun _ => fun
  | [d1, d2, d3] => { results := [.lit (.bool false)], args := [d1, d2, d3] }
  | _ => none }
def FnListTurnedWrongFalsely : Prop := fnListTurnedRow.holds Tryd.pinned (OpenSpec.ofChange fnListTurnedWrong)

/- THE SECOND FORM. 'bulk': how many values and letters a reading holds, each counted each time it is reached (what is shared counts as often as it is met; a slice's spare places count too). A statement '..UptoSaid' is the law's where the arguments, and the package variables that the reading takes, are together of bulk at most 1048576: NARROWER than '..Said'. Prove '..Said' where nothing that the law and all that it calls make is longer than what came in: it says more and counts as full. Else prove '..UptoSaid'. A law counts once. -/
mutual
def uptoBulk {H : Type} : DataW H → Nat
  | .lit (.string bytes) => bytes.length + 1
  | .lit _ => 1
  | .nil => 1
  | .ptr d => uptoBulk d + 1
  | .slice elems spare => uptoBulkAll elems + uptoBulkAll spare + 1
  | .agg parts => uptoBulkAll parts + 1
  | .iface _ d => uptoBulk d + 1
  | .map entries => uptoBulkEntries entries + 1
  | .held _ => 1
def uptoBulkAll {H : Type} : List (DataW H) → Nat
  | [] => 0
  | d :: r => uptoBulk d + uptoBulkAll r
def uptoBulkEntries {H : Type} : List (Lit × DataW H) → Nat
  | [] => 0
  | x :: r => uptoBulkEntry x + uptoBulkEntries r
def uptoBulkEntry {H : Type} : Lit × DataW H → Nat
  | (.string bytes, d) => bytes.length + uptoBulk d + 1
  | (_, d) => uptoBulk d + 1
 end
def uptoSmall : (H : Type) → List (DataW H) → Bool := fun _ ds => decide (uptoBulkAll ds ≤ 1048576)
def OpenSpec.upto (s : _root_.Go.ChangeSpec) : _root_.Go.OpenSpec := { _root_.Go.OpenSpec.ofChange s with cond := some uptoSmall }

/-- 'laws.FnListStarting', WHERE WHAT IT READS IS OF BULK AT MOST 1048576: true; the input reads as it did. -/
def fnListStartingUptoRow : OpenClaim := { program := "ytcnbnljlopopkaadoor", sum := "e7a6ee9a4c0a6b246e11079095f11bc4a067ff6667fb194887c9a03add1644ae", func := "pub-tokenroad/laws.FnListStarting", spec := "fnListStarting", inPlace := ["(*sync.RWMutex).Lock", "internal/race.Read", "internal/race.Disable", "(*internal/sync.Mutex).Lock", "sync/atomic.CompareAndSwapInt32", "internal/race.Enable", "internal/race.Acquire", "(*internal/sync.Mutex).lockSlow", "internal/sync.runtime_canSpin", "internal/sync.runtime_doSpin", "internal/sync.throw", "internal/sync.runtime_nanotime", "internal/sync.runtime_SemacquireMutex", "sync/atomic.AddInt32", "sync.runtime_SemacquireRWMutex", "(*sync.RWMutex).Unlock", "internal/race.Release", "internal/race.ReleaseMerge", "sync.fatal", "sync.runtime_Semrelease", "(*internal/sync.Mutex).Unlock", "(*internal/sync.Mutex).unlockSlow", "internal/sync.fatal", "internal/sync.runtime_Semrelease", "(*sync.RWMutex).RLock", "sync.runtime_SemacquireRWMutexR", "(*sync.RWMutex).RUnlock", "(*sync.RWMutex).rUnlockSlow"], recurses := true, named := ["pub-tokenroad/pub/natsserver/server/gsl.ErrInvalidSubject", "pub-tokenroad/pub/natsserver/server/gsl.ErrNotFound"], apart := false, laid := [("pub-tokenroad/pub/natsserver/server/gsl.ErrInvalidSubject", laid_pub_tokenroad_pub_natsserver_server_gsl_ErrInvalidSubject), ("pub-tokenroad/pub/natsserver/server/gsl.ErrNotFound", laid_pub_tokenroad_pub_natsserver_server_gsl_ErrNotFound)], narrowed := true }
def FnListStartingUptoSaid : Prop := fnListStartingUptoRow.holds Tryd.pinned (OpenSpec.upto fnListStartingSpec)

/-- 'laws.FnListSingle', WHERE WHAT IT READS IS OF BULK AT MOST 1048576: true; the input reads as it did. -/
def fnListSingleUptoRow : OpenClaim := { program := "ytcnbnljlopopkaadoor", sum := "e7a6ee9a4c0a6b246e11079095f11bc4a067ff6667fb194887c9a03add1644ae", func := "pub-tokenroad/laws.FnListSingle", spec := "fnListSingle", inPlace := ["(*sync.RWMutex).Lock", "internal/race.Read", "internal/race.Disable", "(*internal/sync.Mutex).Lock", "sync/atomic.CompareAndSwapInt32", "internal/race.Enable", "internal/race.Acquire", "(*internal/sync.Mutex).lockSlow", "internal/sync.runtime_canSpin", "internal/sync.runtime_doSpin", "internal/sync.throw", "internal/sync.runtime_nanotime", "internal/sync.runtime_SemacquireMutex", "sync/atomic.AddInt32", "sync.runtime_SemacquireRWMutex", "(*sync.RWMutex).Unlock", "internal/race.Release", "internal/race.ReleaseMerge", "sync.fatal", "sync.runtime_Semrelease", "(*internal/sync.Mutex).Unlock", "(*internal/sync.Mutex).unlockSlow", "internal/sync.fatal", "internal/sync.runtime_Semrelease", "(*sync.RWMutex).RLock", "sync.runtime_SemacquireRWMutexR", "(*sync.RWMutex).RUnlock", "(*sync.RWMutex).rUnlockSlow"], recurses := true, named := ["pub-tokenroad/pub/natsserver/server/gsl.ErrInvalidSubject", "pub-tokenroad/pub/natsserver/server/gsl.ErrNotFound"], apart := false, laid := [("pub-tokenroad/pub/natsserver/server/gsl.ErrInvalidSubject", laid_pub_tokenroad_pub_natsserver_server_gsl_ErrInvalidSubject), ("pub-tokenroad/pub/natsserver/server/gsl.ErrNotFound", laid_pub_tokenroad_pub_natsserver_server_gsl_ErrNotFound)], narrowed := true }
def FnListSingleUptoSaid : Prop := fnListSingleUptoRow.holds Tryd.pinned (OpenSpec.upto fnListSingleSpec)

/-- 'laws.FnListMatch', WHERE WHAT IT READS IS OF BULK AT MOST 1048576: true; the input reads as it did. -/
def fnListMatchUptoRow : OpenClaim := { program := "ytcnbnljlopopkaadoor", sum := "e7a6ee9a4c0a6b246e11079095f11bc4a067ff6667fb194887c9a03add1644ae", func := "pub-tokenroad/laws.FnListMatch", spec := "fnListMatch", inPlace := ["(*sync.RWMutex).Lock", "internal/race.Read", "internal/race.Disable", "(*internal/sync.Mutex).Lock", "sync/atomic.CompareAndSwapInt32", "internal/race.Enable", "internal/race.Acquire", "(*internal/sync.Mutex).lockSlow", "internal/sync.runtime_canSpin", "internal/sync.runtime_doSpin", "internal/sync.throw", "internal/sync.runtime_nanotime", "internal/sync.runtime_SemacquireMutex", "sync/atomic.AddInt32", "sync.runtime_SemacquireRWMutex", "(*sync.RWMutex).Unlock", "internal/race.Release", "internal/race.ReleaseMerge", "sync.fatal", "sync.runtime_Semrelease", "(*internal/sync.Mutex).Unlock", "(*internal/sync.Mutex).unlockSlow", "internal/sync.fatal", "internal/sync.runtime_Semrelease", "(*sync.RWMutex).RLock", "sync.runtime_SemacquireRWMutexR", "(*sync.RWMutex).RUnlock", "(*sync.RWMutex).rUnlockSlow"], unfollowed := true, recurses := true, named := ["pub-tokenroad/pub/natsserver/server/gsl.ErrInvalidSubject", "pub-tokenroad/pub/natsserver/server/gsl.ErrNotFound"], apart := false, laid := [("pub-tokenroad/pub/natsserver/server/gsl.ErrInvalidSubject", laid_pub_tokenroad_pub_natsserver_server_gsl_ErrInvalidSubject), ("pub-tokenroad/pub/natsserver/server/gsl.ErrNotFound", laid_pub_tokenroad_pub_natsserver_server_gsl_ErrNotFound)], narrowed := true }
def FnListMatchUptoSaid : Prop := fnListMatchUptoRow.holds Tryd.pinned (OpenSpec.upto fnListMatchSpec)

/-- 'laws.FnListTurned', WHERE WHAT IT READS IS OF BULK AT MOST 1048576: true; the input reads as it did. -/
def fnListTurnedUptoRow : OpenClaim := { program := "ytcnbnljlopopkaadoor", sum := "e7a6ee9a4c0a6b246e11079095f11bc4a067ff6667fb194887c9a03add1644ae", func := "pub-tokenroad/laws.FnListTurned", spec := "fnListTurned", inPlace := ["(*sync.RWMutex).Lock", "internal/race.Read", "internal/race.Disable", "(*internal/sync.Mutex).Lock", "sync/atomic.CompareAndSwapInt32", "internal/race.Enable", "internal/race.Acquire", "(*internal/sync.Mutex).lockSlow", "internal/sync.runtime_canSpin", "internal/sync.runtime_doSpin", "internal/sync.throw", "internal/sync.runtime_nanotime", "internal/sync.runtime_SemacquireMutex", "sync/atomic.AddInt32", "sync.runtime_SemacquireRWMutex", "(*sync.RWMutex).Unlock", "internal/race.Release", "internal/race.ReleaseMerge", "sync.fatal", "sync.runtime_Semrelease", "(*internal/sync.Mutex).Unlock", "(*internal/sync.Mutex).unlockSlow", "internal/sync.fatal", "internal/sync.runtime_Semrelease", "(*sync.RWMutex).RLock", "sync.runtime_SemacquireRWMutexR", "(*sync.RWMutex).RUnlock", "(*sync.RWMutex).rUnlockSlow"], unfollowed := true, recurses := true, named := ["pub-tokenroad/pub/natsserver/server/gsl.ErrInvalidSubject", "pub-tokenroad/pub/natsserver/server/gsl.ErrNotFound"], apart := false, laid := [("pub-tokenroad/pub/natsserver/server/gsl.ErrInvalidSubject", laid_pub_tokenroad_pub_natsserver_server_gsl_ErrInvalidSubject), ("pub-tokenroad/pub/natsserver/server/gsl.ErrNotFound", laid_pub_tokenroad_pub_natsserver_server_gsl_ErrNotFound)], narrowed := true }
def FnListTurnedUptoSaid : Prop := fnListTurnedUptoRow.holds Tryd.pinned (OpenSpec.upto fnListTurnedSpec)

end Rows
end Go.Proofs.YtcnbnljlopopkaaDoor
