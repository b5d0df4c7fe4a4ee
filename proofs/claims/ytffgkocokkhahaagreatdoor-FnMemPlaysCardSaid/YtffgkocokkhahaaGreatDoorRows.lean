/-
  NARROWER THAN 'FOR EVERY INPUT', by the rows' own cells (each row's printed sentence says how): FnMemPlays: laid · FnIndexOrder: laid.
  DERIVED. THE GIVEN ROWS OF THIS SEAT. 2 by the template 'for every input the law returns true; each argument reads behind the call as it read before'; 0 by the template 'total and deterministic' (their statements: YtffgkocokkhahaaGreatDoorTotals.lean).
  GIVEN WITH THE SEED: the statements are not yours to turn. If you find one false, say at which input.
  Laid BY PROGRAM, IN A SANDBOX (cutbox-rows.mjs): the forced cells as the released guide's own fill.sh prints them over the translation 68ed680608ee929e… (all of the seat's roots in one cut). By AI agents, Wed Nov 11 2026. No macro, syntax, notation, axiom, sorry.
-/
import Derived.Test.YtffgkocokkhahaaGreatDoorChecked
import GoSem.Claim
import GoSem.ClaimJoined
import GoSem.ClaimMapViews
import Derived.JoinedTies
import Derived.KernelRfl
namespace Go.Proofs.YtffgkocokkhahaaGreatDoor
/- THE CELL 'sum', in the pinned program and in every row, IS THE sha256 OF THE DUMP (.gsa) THAT YtffgkocokkhahaaGreatDoorProg.lean LOADS. Nothing in Lean hashes anything: it is a label: what it is worth is what the hold of that sum in a sandbox is worth. -/
noncomputable def Tryz.pinned : Pinned := { name := "ytffgkocokkhahaagreatdoor", sum := "68ed680608ee929eb3adcce7eca551099860fe991b1e935cdee90e88aeb12719", checked := Tryz.checked }
namespace Rows
def none {H : Type} : Left H := { results := [], args := [] }

/- WHAT THE LISTED PACKAGE-LEVEL VARIABLES READ AS WHEN THE CALL BEGINS. Each datum BY PROGRAM (the guide's laid-datum.mjs) off the statement by which the dump's own 'gosem.cut.vars' lays the variable. In a bare row this is a premise. The card (YtffgkocokkhahaaGreatDoorCards.lean) ties it to the program's text. -/
def laid_pub_quern_pub_ql_errCommitNotInTransaction {H : Type} : DataW H := .iface "*errors.errorString" (.ptr (.agg [.lit (.string [67, 79, 77, 77, 73, 84, 58, 32, 78, 111, 116, 32, 105, 110, 32, 116, 114, 97, 110, 115, 97, 99, 116, 105, 111, 110])]))
def laid_pub_quern_pub_ql_errDivByZero {H : Type} : DataW H := .iface "*errors.errorString" (.ptr (.agg [.lit (.string [100, 105, 118, 105, 115, 105, 111, 110, 32, 98, 121, 32, 122, 101, 114, 111])]))
def laid_pub_quern_pub_ql_errNoDataForHandle {H : Type} : DataW H := .iface "*errors.errorString" (.ptr (.agg [.lit (.string [114, 101, 97, 100, 58, 32, 110, 111, 32, 100, 97, 116, 97, 32, 102, 111, 114, 32, 104, 97, 110, 100, 108, 101])]))
def laid_pub_quern_pub_ql_errRollbackNotInTransaction {H : Type} : DataW H := .iface "*errors.errorString" (.ptr (.agg [.lit (.string [82, 79, 76, 76, 66, 65, 67, 75, 58, 32, 78, 111, 116, 32, 105, 110, 32, 116, 114, 97, 110, 115, 97, 99, 116, 105, 111, 110])]))
def laid_io_EOF {H : Type} : DataW H := .iface "*errors.errorString" (.ptr (.agg [.lit (.string [69, 79, 70])]))

/-- 'laws.FnMemPlays': WHATEVER THE INPUT: true; the input reads as it did. -/
def fnMemPlaysSpec : ChangeSpec := { name := "fnMemPlays", fn := fun _ => fun
  | [d] => { results := [.lit (.bool true)], args := [d] }
  | _ => none }
def fnMemPlaysRow : OpenClaim := { program := "ytffgkocokkhahaagreatdoor", sum := "68ed680608ee929eb3adcce7eca551099860fe991b1e935cdee90e88aeb12719", func := "pub-quern/laws.FnMemPlays", spec := "fnMemPlays", inPlace := ["math.Float64bits", "internal/bytealg.Compare", "(*sync.RWMutex).RLock", "internal/race.Read", "internal/race.Disable", "sync/atomic.AddInt32", "sync.runtime_SemacquireRWMutexR", "internal/race.Enable", "internal/race.Acquire", "(*sync.RWMutex).RUnlock", "internal/race.ReleaseMerge", "(*sync.RWMutex).rUnlockSlow", "sync.fatal", "sync.runtime_Semrelease"], recurses := true, named := ["pub-quern/pub/ql.errCommitNotInTransaction", "pub-quern/pub/ql.errRollbackNotInTransaction", "pub-quern/pub/ql.errNoDataForHandle", "pub-quern/pub/ql.errDivByZero"], apart := false, laid := [("pub-quern/pub/ql.errCommitNotInTransaction", laid_pub_quern_pub_ql_errCommitNotInTransaction), ("pub-quern/pub/ql.errDivByZero", laid_pub_quern_pub_ql_errDivByZero), ("pub-quern/pub/ql.errNoDataForHandle", laid_pub_quern_pub_ql_errNoDataForHandle), ("pub-quern/pub/ql.errRollbackNotInTransaction", laid_pub_quern_pub_ql_errRollbackNotInTransaction)] }
def FnMemPlaysSaid : Prop := fnMemPlaysRow.holds Tryz.pinned (OpenSpec.ofChange fnMemPlaysSpec)

/-- ITS FALSE NEIGHBOUR: 'it returns false'. Refute it at one input. -/
def fnMemPlaysWrong : ChangeSpec := { name := "fnMemPlays", fn := fun _ => fun
  | [d] => { results := [.lit (.bool false)], args := [d] }
  | _ => none }
def FnMemPlaysWrongFalsely : Prop := fnMemPlaysRow.holds Tryz.pinned (OpenSpec.ofChange fnMemPlaysWrong)

/-- 'laws.FnIndexOrder': WHATEVER THE INPUT: true; the input reads as it did. -/
def fnIndexOrderSpec : ChangeSpec := { name := "fnIndexOrder", fn := fun _ => fun
  | [d1, d2] => { results := [.lit (.bool true)], args := [d1, d2] }
  | _ => none }
def fnIndexOrderRow : OpenClaim := { program := "ytffgkocokkhahaagreatdoor", sum := "68ed680608ee929eb3adcce7eca551099860fe991b1e935cdee90e88aeb12719", func := "pub-quern/laws.FnIndexOrder", spec := "fnIndexOrder", inPlace := ["math.Float64bits", "internal/bytealg.Compare"], unfollowed := true, recurses := true, named := ["pub-quern/pub/ql.errCommitNotInTransaction", "pub-quern/pub/ql.errDivByZero", "io.EOF"], apart := false, laid := [("io.EOF", laid_io_EOF), ("pub-quern/pub/ql.errCommitNotInTransaction", laid_pub_quern_pub_ql_errCommitNotInTransaction), ("pub-quern/pub/ql.errDivByZero", laid_pub_quern_pub_ql_errDivByZero)] }
def FnIndexOrderSaid : Prop := fnIndexOrderRow.holds Tryz.pinned (OpenSpec.ofChange fnIndexOrderSpec)

/-- ITS FALSE NEIGHBOUR: 'it returns false'. Refute it at one input. -/
def fnIndexOrderWrong : ChangeSpec := { name := "fnIndexOrder", fn := fun _ => fun
  | [d1, d2] => { results := [.lit (.bool false)], args := [d1, d2] }
  | _ => none }
def FnIndexOrderWrongFalsely : Prop := fnIndexOrderRow.holds Tryz.pinned (OpenSpec.ofChange fnIndexOrderWrong)

/- THE SECOND FORM. 'bulk': how many values and letters a reading holds, each counted each time it is reached (what is shared counts as often as it is met; a slice's spare places count too). A statement '..UptoSaid' is the law's where the arguments, and the package variables that the reading takes, are together of bulk at most 1048576: NARROWER than '..Said'. Prove '..Said' where nothing that the law and all that it calls make is longer than what came in: it says more and counts as full. Else prove '..UptoSaid'. A law counts once. -/
mutual
def uptoBulk {H : Type} : DataW H → Nat
  | .lit (.string bytes) => bytes.length + 1
  | .lit _ => 1
  | .nil => 1
  | .ptr d => uptoBulk d + 1
  | .slice elems spare => uptoBulkAll elems + uptoBulkAll spare + 1
  | .agg parts => uptoBulkAll parts + 1
  | .iface _ d => uptoBulk d + 1
  | .map entries => uptoBulkEntries entries + 1
  | .held _ => 1
def uptoBulkAll {H : Type} : List (DataW H) → Nat
  | [] => 0
  | d :: r => uptoBulk d + uptoBulkAll r
def uptoBulkEntries {H : Type} : List (Lit × DataW H) → Nat
  | [] => 0
  | x :: r => uptoBulkEntry x + uptoBulkEntries r
def uptoBulkEntry {H : Type} : Lit × DataW H → Nat
  | (.string bytes, d) => bytes.length + uptoBulk d + 1
  | (_, d) => uptoBulk d + 1
 end
def uptoSmall : (H : Type) → List (DataW H) → Bool := fun _ ds => decide (uptoBulkAll ds ≤ 1048576)
def OpenSpec.upto (s : _root_.Go.ChangeSpec) : _root_.Go.OpenSpec := { _root_.Go.OpenSpec.ofChange s with cond := some uptoSmall }

/-- 'laws.FnMemPlays', WHERE WHAT IT READS IS OF BULK AT MOST 1048576: true; the input reads as it did. -/
def fnMemPlaysUptoRow : OpenClaim := { program := "ytffgkocokkhahaagreatdoor", sum := "68ed680608ee929eb3adcce7eca551099860fe991b1e935cdee90e88aeb12719", func := "pub-quern/laws.FnMemPlays", spec := "fnMemPlays", inPlace := ["math.Float64bits", "internal/bytealg.Compare", "(*sync.RWMutex).RLock", "internal/race.Read", "internal/race.Disable", "sync/atomic.AddInt32", "sync.runtime_SemacquireRWMutexR", "internal/race.Enable", "internal/race.Acquire", "(*sync.RWMutex).RUnlock", "internal/race.ReleaseMerge", "(*sync.RWMutex).rUnlockSlow", "sync.fatal", "sync.runtime_Semrelease"], recurses := true, named := ["pub-quern/pub/ql.errCommitNotInTransaction", "pub-quern/pub/ql.errRollbackNotInTransaction", "pub-quern/pub/ql.errNoDataForHandle", "pub-quern/pub/ql.errDivByZero"], apart := false, laid := [("pub-quern/pub/ql.errCommitNotInTransaction", laid_pub_quern_pub_ql_errCommitNotInTransaction), ("pub-quern/pub/ql.errDivByZero", laid_pub_quern_pub_ql_errDivByZero), ("pub-quern/pub/ql.errNoDataForHandle", laid_pub_quern_pub_ql_errNoDataForHandle), ("pub-quern/pub/ql.errRollbackNotInTransaction", laid_pub_quern_pub_ql_errRollbackNotInTransaction)], narrowed := true }
def FnMemPlaysUptoSaid : Prop := fnMemPlaysUptoRow.holds Tryz.pinned (OpenSpec.upto fnMemPlaysSpec)

/-- 'laws.FnIndexOrder', WHERE WHAT IT READS IS OF BULK AT MOST 1048576: true; the input reads as it did. -/
def fnIndexOrderUptoRow : OpenClaim := { program := "ytffgkocokkhahaagreatdoor", sum := "68ed680608ee929eb3adcce7eca551099860fe991b1e935cdee90e88aeb12719", func := "pub-quern/laws.FnIndexOrder", spec := "fnIndexOrder", inPlace := ["math.Float64bits", "internal/bytealg.Compare"], unfollowed := true, recurses := true, named := ["pub-quern/pub/ql.errCommitNotInTransaction", "pub-quern/pub/ql.errDivByZero", "io.EOF"], apart := false, laid := [("io.EOF", laid_io_EOF), ("pub-quern/pub/ql.errCommitNotInTransaction", laid_pub_quern_pub_ql_errCommitNotInTransaction), ("pub-quern/pub/ql.errDivByZero", laid_pub_quern_pub_ql_errDivByZero)], narrowed := true }
def FnIndexOrderUptoSaid : Prop := fnIndexOrderUptoRow.holds Tryz.pinned (OpenSpec.upto fnIndexOrderSpec)

end Rows
end Go.Proofs.YtffgkocokkhahaaGreatDoor
