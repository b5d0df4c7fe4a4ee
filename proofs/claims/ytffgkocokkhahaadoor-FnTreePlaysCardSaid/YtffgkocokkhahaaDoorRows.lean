/-
  NARROWER THAN 'FOR EVERY INPUT', by the rows' own cells (each row's printed sentence says how): FnTreePlays: laid · FnIndexUnique: laid.
  DERIVED. THE GIVEN ROWS OF THIS SEAT. 2 by the template 'for every input the law returns true; each argument reads behind the call as it read before'; 0 by the template 'total and deterministic' (their statements: YtffgkocokkhahaaDoorTotals.lean).
  GIVEN WITH THE SEED: the statements are not yours to turn. If you find one false, say at which input.
  Laid BY PROGRAM, IN A SANDBOX (cutbox-rows.mjs): the forced cells as the released guide's own fill.sh prints them over the translation 3511580c562b8191… (all of the seat's roots in one cut). By AI agents, Wed Nov 11 2026. No macro, syntax, notation, axiom, sorry.
-/
import Derived.Test.YtffgkocokkhahaaDoorChecked
import GoSem.Claim
import GoSem.ClaimJoined
import GoSem.ClaimMapViews
import Derived.JoinedTies
import Derived.KernelRfl
namespace Go.Proofs.YtffgkocokkhahaaDoor
/- THE CELL 'sum', in the pinned program and in every row, IS THE sha256 OF THE DUMP (.gsa) THAT YtffgkocokkhahaaDoorProg.lean LOADS. Nothing in Lean hashes anything: it is a label: what it is worth is what the hold of that sum in a sandbox is worth. -/
noncomputable def Tryd.pinned : Pinned := { name := "ytffgkocokkhahaadoor", sum := "3511580c562b8191b0175a31d928a8796ec2628e158b3a121db92c070e2eac16", checked := Tryd.checked }
namespace Rows
def none {H : Type} : Left H := { results := [], args := [] }

/- WHAT THE LISTED PACKAGE-LEVEL VARIABLES READ AS WHEN THE CALL BEGINS. Each datum BY PROGRAM (the guide's laid-datum.mjs) off the statement by which the dump's own 'gosem.cut.vars' lays the variable. In a bare row this is a premise. The card (YtffgkocokkhahaaDoorCards.lean) ties it to the program's text. -/
def laid_io_EOF {H : Type} : DataW H := .iface "*errors.errorString" (.ptr (.agg [.lit (.string [69, 79, 70])]))
def laid_pub_quern_pub_ql_errCommitNotInTransaction {H : Type} : DataW H := .iface "*errors.errorString" (.ptr (.agg [.lit (.string [67, 79, 77, 77, 73, 84, 58, 32, 78, 111, 116, 32, 105, 110, 32, 116, 114, 97, 110, 115, 97, 99, 116, 105, 111, 110])]))
def laid_pub_quern_pub_ql_errDivByZero {H : Type} : DataW H := .iface "*errors.errorString" (.ptr (.agg [.lit (.string [100, 105, 118, 105, 115, 105, 111, 110, 32, 98, 121, 32, 122, 101, 114, 111])]))

/-- 'laws.FnTreePlays': WHATEVER THE INPUT: true; the input reads as it did. -/
def fnTreePlaysSpec : ChangeSpec := { name := "fnTreePlays", fn := fun _ => fun
  | [d1, d2, d3] => { results := [.lit (.bool true)], args := [d1, d2, d3] }
  | _ => none }
def fnTreePlaysRow : OpenClaim := { program := "ytffgkocokkhahaadoor", sum := "3511580c562b8191b0175a31d928a8796ec2628e158b3a121db92c070e2eac16", func := "pub-quern/laws.FnTreePlays", spec := "fnTreePlays", inPlace := ["internal/bytealg.Compare", "math.Float64bits"], unfollowed := true, recurses := true, named := ["io.EOF"], apart := false, laid := [("io.EOF", laid_io_EOF)] }
def FnTreePlaysSaid : Prop := fnTreePlaysRow.holds Tryd.pinned (OpenSpec.ofChange fnTreePlaysSpec)

/-- ITS FALSE NEIGHBOUR: 'it returns false'. Refute it at one input. -/
def fnTreePlaysWrong : ChangeSpec := { name := "fnTreePlays", fn := fun _ => fun
  | [d1, d2, d3] => { results := [.lit (.bool false)], args := [d1, d2, d3] }
  | _ => none }
def FnTreePlaysWrongFalsely : Prop := fnTreePlaysRow.holds Tryd.pinned (OpenSpec.ofChange fnTreePlaysWrong)

/-- 'laws.FnIndexUnique': WHATEVER THE INPUT: true; the input reads as it did. -/
def fnIndexUniqueSpec : ChangeSpec := { name := "fnIndexUnique", fn := fun _ => fun
  | [d1, d2] => { results := [.lit (.bool true)], args := [d1, d2] }
  | _ => none }
def fnIndexUniqueRow : OpenClaim := { program := "ytffgkocokkhahaadoor", sum := "3511580c562b8191b0175a31d928a8796ec2628e158b3a121db92c070e2eac16", func := "pub-quern/laws.FnIndexUnique", spec := "fnIndexUnique", inPlace := ["math.Float64bits", "internal/bytealg.Compare"], unfollowed := true, recurses := true, named := ["pub-quern/pub/ql.errCommitNotInTransaction", "pub-quern/pub/ql.errDivByZero", "io.EOF"], apart := false, laid := [("io.EOF", laid_io_EOF), ("pub-quern/pub/ql.errCommitNotInTransaction", laid_pub_quern_pub_ql_errCommitNotInTransaction), ("pub-quern/pub/ql.errDivByZero", laid_pub_quern_pub_ql_errDivByZero)] }
def FnIndexUniqueSaid : Prop := fnIndexUniqueRow.holds Tryd.pinned (OpenSpec.ofChange fnIndexUniqueSpec)

/-- ITS FALSE NEIGHBOUR: 'it returns false'. Refute it at one input. -/
def fnIndexUniqueWrong : ChangeSpec := { name := "fnIndexUnique", fn := fun _ => fun
  | [d1, d2] => { results := [.lit (.bool false)], args := [d1, d2] }
  | _ => none }
def FnIndexUniqueWrongFalsely : Prop := fnIndexUniqueRow.holds Tryd.pinned (OpenSpec.ofChange fnIndexUniqueWrong)

/- THE SECOND FORM. 'bulk': how many values and letters a reading holds, each counted each time it is reached (what is shared counts as often as it is met; a slice's spare places count too). A statement '..UptoSaid' is the law's where the arguments, and the package variables that the reading takes, are together of bulk at most 1048576: NARROWER than '..Said'. Prove '..Said' where nothing that the law and all that it calls make is longer than what came in: it says more and counts as full. Else prove '..UptoSaid'. A law counts once. -/
mutual
def uptoBulk {H : Type} : DataW H → Nat
  | .lit (.string bytes) => bytes.length + 1
  | .lit _ => 1
  | .nil => 1
  | .ptr d => uptoBulk d + 1
  | .slice elems spare => uptoBulkAll elems + uptoBulkAll spare + 1
  | .agg parts => uptoBulkAll parts + 1
  | .iface _ d => uptoBulk d + 1
  | .map entries => uptoBulkEntries entries + 1
  | .held _ => 1
def uptoBulkAll {H : Type} : List (DataW H) → Nat
  | [] => 0
  | d :: r => uptoBulk d + uptoBulkAll r
def uptoBulkEntries {H : Type} : List (Lit × DataW H) → Nat
  | [] => 0
  | x :: r => uptoBulkEntry x + uptoBulkEntries r
def uptoBulkEntry {H : Type} : Lit × DataW H → Nat
  | (.string bytes, d) => bytes.length + uptoBulk d + 1
  | (_, d) => uptoBulk d + 1
 end
def uptoSmall : (H : Type) → List (DataW H) → Bool := fun _ ds => decide (uptoBulkAll ds ≤ 1048576)
def OpenSpec.upto (s : _root_.Go.ChangeSpec) : _root_.Go.OpenSpec := { _root_.Go.OpenSpec.ofChange s with cond := some uptoSmall }

/-- 'laws.FnTreePlays', WHERE WHAT IT READS IS OF BULK AT MOST 1048576: true; the input reads as it did. -/
def fnTreePlaysUptoRow : OpenClaim := { program := "ytffgkocokkhahaadoor", sum := "3511580c562b8191b0175a31d928a8796ec2628e158b3a121db92c070e2eac16", func := "pub-quern/laws.FnTreePlays", spec := "fnTreePlays", inPlace := ["internal/bytealg.Compare", "math.Float64bits"], unfollowed := true, recurses := true, named := ["io.EOF"], apart := false, laid := [("io.EOF", laid_io_EOF)], narrowed := true }
def FnTreePlaysUptoSaid : Prop := fnTreePlaysUptoRow.holds Tryd.pinned (OpenSpec.upto fnTreePlaysSpec)

/-- 'laws.FnIndexUnique', WHERE WHAT IT READS IS OF BULK AT MOST 1048576: true; the input reads as it did. -/
def fnIndexUniqueUptoRow : OpenClaim := { program := "ytffgkocokkhahaadoor", sum := "3511580c562b8191b0175a31d928a8796ec2628e158b3a121db92c070e2eac16", func := "pub-quern/laws.FnIndexUnique", spec := "fnIndexUnique", inPlace := ["math.Float64bits", "internal/bytealg.Compare"], unfollowed := true, recurses := true, named := ["pub-quern/pub/ql.errCommitNotInTransaction", "pub-quern/pub/ql.errDivByZero", "io.EOF"], apart := false, laid := [("io.EOF", laid_io_EOF), ("pub-quern/pub/ql.errCommitNotInTransaction", laid_pub_quern_pub_ql_errCommitNotInTransaction), ("pub-quern/pub/ql.errDivByZero", laid_pub_quern_pub_ql_errDivByZero)], narrowed := true }
def FnIndexUniqueUptoSaid : Prop := fnIndexUniqueUptoRow.holds Tryd.pinned (OpenSpec.upto fnIndexUniqueSpec)

end Rows
end Go.Proofs.YtffgkocokkhahaaDoor
