/-
  NARROWER THAN 'FOR EVERY INPUT', by the rows' own cells (each row's printed sentence says how): FnTypeCheckFits: laid · FnConvertFloats: laid · FnConvertKinds: laid · FnConvertNull: laid · FnMaxGreatest: laid.
  DERIVED. THE GIVEN ROWS OF THIS SEAT. 5 by the template 'for every input the law returns true; each argument reads behind the call as it read before'; 0 by the template 'total and deterministic' (their statements: YtiijcmdfbgoafaaDoorTotals.lean).
  GIVEN WITH THE SEED: the statements are not yours to turn. If you find one false, say at which input.
  Laid BY PROGRAM, IN A SANDBOX (cutbox-rows.mjs): the forced cells as the released guide's own fill.sh prints them over the translation 247163b87b98d120… (all of the seat's roots in one cut). By AI agents, Wed Nov 11 2026. No macro, syntax, notation, axiom, sorry.
-/
import Derived.Test.YtiijcmdfbgoafaaDoorChecked
import GoSem.Claim
import GoSem.ClaimJoined
import GoSem.ClaimMapViews
import Derived.JoinedTies
import Derived.KernelRfl
namespace Go.Proofs.YtiijcmdfbgoafaaDoor
/- THE CELL 'sum', in the pinned program and in every row, IS THE sha256 OF THE DUMP (.gsa) THAT YtiijcmdfbgoafaaDoorProg.lean LOADS. Nothing in Lean hashes anything: it is a label: what it is worth is what the hold of that sum in a sandbox is worth. -/
noncomputable def Tryd.pinned : Pinned := { name := "ytiijcmdfbgoafaadoor", sum := "247163b87b98d120e260cd757bd60ca6d316d9b7412e5171bcf64e31540b9aa4", checked := Tryd.checked }
namespace Rows
def none {H : Type} : Left H := { results := [], args := [] }

/- WHAT THE LISTED PACKAGE-LEVEL VARIABLES READ AS WHEN THE CALL BEGINS. Each datum BY PROGRAM (the guide's laid-datum.mjs) off the statement by which the dump's own 'gosem.cut.vars' lays the variable. In a bare row this is a premise. The card (YtiijcmdfbgoafaaDoorCards.lean) ties it to the program's text. -/
def laid_pub_quern_pub_ql_errDivByZero {H : Type} : DataW H := .iface "*errors.errorString" (.ptr (.agg [.lit (.string [100, 105, 118, 105, 115, 105, 111, 110, 32, 98, 121, 32, 122, 101, 114, 111])]))

/-- 'laws.FnTypeCheckFits': WHATEVER THE INPUT: true; the input reads as it did. -/
def fnTypeCheckFitsSpec : ChangeSpec := { name := "fnTypeCheckFits", fn := fun _ => fun
  | [d1, d2] => { results := [.lit (.bool true)], args := [d1, d2] }
  | _ => none }
def fnTypeCheckFitsRow : OpenClaim := { program := "ytiijcmdfbgoafaadoor", sum := "247163b87b98d120e260cd757bd60ca6d316d9b7412e5171bcf64e31540b9aa4", func := "pub-quern/laws.FnTypeCheckFits", spec := "fnTypeCheckFits", inPlace := ["math.archFloor", "math.Float64bits", "math.Float64frombits", "math.archTrunc"], named := ["pub-quern/pub/ql.errDivByZero"], apart := false, laid := [("pub-quern/pub/ql.errDivByZero", laid_pub_quern_pub_ql_errDivByZero)] }
def FnTypeCheckFitsSaid : Prop := fnTypeCheckFitsRow.holds Tryd.pinned (OpenSpec.ofChange fnTypeCheckFitsSpec)

/-- ITS FALSE NEIGHBOUR: 'it returns false'. Refute it at one input. -/
def fnTypeCheckFitsWrong : ChangeSpec := { name := "fnTypeCheckFits", fn := fun _ => fun
  | [d1, d2] => { results := [.lit (.bool false)], args := [d1, d2] }
  | _ => none }
def FnTypeCheckFitsWrongFalsely : Prop := fnTypeCheckFitsRow.holds Tryd.pinned (OpenSpec.ofChange fnTypeCheckFitsWrong)

/-- 'laws.FnConvertFloats': WHATEVER THE INPUT: true; the input reads as it did. -/
def fnConvertFloatsSpec : ChangeSpec := { name := "fnConvertFloats", fn := fun _ => fun
  | [d1, d2] => { results := [.lit (.bool true)], args := [d1, d2] }
  | _ => none }
def fnConvertFloatsRow : OpenClaim := { program := "ytiijcmdfbgoafaadoor", sum := "247163b87b98d120e260cd757bd60ca6d316d9b7412e5171bcf64e31540b9aa4", func := "pub-quern/laws.FnConvertFloats", spec := "fnConvertFloats", inPlace := ["math.Float64bits", "math.archTrunc", "math.Float64frombits"], named := ["pub-quern/pub/ql.errDivByZero"], apart := false, laid := [("pub-quern/pub/ql.errDivByZero", laid_pub_quern_pub_ql_errDivByZero)] }
def FnConvertFloatsSaid : Prop := fnConvertFloatsRow.holds Tryd.pinned (OpenSpec.ofChange fnConvertFloatsSpec)

/-- ITS FALSE NEIGHBOUR: 'it returns false'. Refute it at one input. -/
def fnConvertFloatsWrong : ChangeSpec := { name := "fnConvertFloats", fn := fun _ => fun
  | [d1, d2] => { results := [.lit (.bool false)], args := [d1, d2] }
  | _ => none }
def FnConvertFloatsWrongFalsely : Prop := fnConvertFloatsRow.holds Tryd.pinned (OpenSpec.ofChange fnConvertFloatsWrong)

/-- 'laws.FnConvertKinds': WHATEVER THE INPUT: true; the input reads as it did. -/
def fnConvertKindsSpec : ChangeSpec := { name := "fnConvertKinds", fn := fun _ => fun
  | [d1, d2] => { results := [.lit (.bool true)], args := [d1, d2] }
  | _ => none }
def fnConvertKindsRow : OpenClaim := { program := "ytiijcmdfbgoafaadoor", sum := "247163b87b98d120e260cd757bd60ca6d316d9b7412e5171bcf64e31540b9aa4", func := "pub-quern/laws.FnConvertKinds", spec := "fnConvertKinds", inPlace := ["math.Float64bits", "math.archTrunc", "math.Float64frombits"], named := ["pub-quern/pub/ql.errDivByZero"], apart := false, laid := [("pub-quern/pub/ql.errDivByZero", laid_pub_quern_pub_ql_errDivByZero)] }
def FnConvertKindsSaid : Prop := fnConvertKindsRow.holds Tryd.pinned (OpenSpec.ofChange fnConvertKindsSpec)

/-- ITS FALSE NEIGHBOUR: 'it returns false'. Refute it at one input. -/
def fnConvertKindsWrong : ChangeSpec := { name := "fnConvertKinds", fn := fun _ => fun
  | [d1, d2] => { results := [.lit (.bool false)], args := [d1, d2] }
  | _ => none }
def FnConvertKindsWrongFalsely : Prop := fnConvertKindsRow.holds Tryd.pinned (OpenSpec.ofChange fnConvertKindsWrong)

/-- 'laws.FnConvertNull': WHATEVER THE INPUT: true; the input reads as it did. -/
def fnConvertNullSpec : ChangeSpec := { name := "fnConvertNull", fn := fun _ => fun
  | [d] => { results := [.lit (.bool true)], args := [d] }
  | _ => none }
def fnConvertNullRow : OpenClaim := { program := "ytiijcmdfbgoafaadoor", sum := "247163b87b98d120e260cd757bd60ca6d316d9b7412e5171bcf64e31540b9aa4", func := "pub-quern/laws.FnConvertNull", spec := "fnConvertNull", inPlace := ["math.archTrunc", "math.Float64bits", "math.Float64frombits"], named := ["pub-quern/pub/ql.errDivByZero"], apart := false, laid := [("pub-quern/pub/ql.errDivByZero", laid_pub_quern_pub_ql_errDivByZero)] }
def FnConvertNullSaid : Prop := fnConvertNullRow.holds Tryd.pinned (OpenSpec.ofChange fnConvertNullSpec)

/-- ITS FALSE NEIGHBOUR: 'it returns false'. Refute it at one input. -/
def fnConvertNullWrong : ChangeSpec := { name := "fnConvertNull", fn := fun _ => fun
  | [d] => { results := [.lit (.bool false)], args := [d] }
  | _ => none }
def FnConvertNullWrongFalsely : Prop := fnConvertNullRow.holds Tryd.pinned (OpenSpec.ofChange fnConvertNullWrong)

/-- 'laws.FnMaxGreatest': WHATEVER THE INPUT: true; the input reads as it did. -/
def fnMaxGreatestSpec : ChangeSpec := { name := "fnMaxGreatest", fn := fun _ => fun
  | [d] => { results := [.lit (.bool true)], args := [d] }
  | _ => none }
def fnMaxGreatestRow : OpenClaim := { program := "ytiijcmdfbgoafaadoor", sum := "247163b87b98d120e260cd757bd60ca6d316d9b7412e5171bcf64e31540b9aa4", func := "pub-quern/laws.FnMaxGreatest", spec := "fnMaxGreatest", inPlace := ["internal/bytealg.Compare", "math.Float64bits"], unfollowed := true, recurses := true, named := ["pub-quern/pub/ql.errDivByZero"], apart := false, laid := [("pub-quern/pub/ql.errDivByZero", laid_pub_quern_pub_ql_errDivByZero)] }
def FnMaxGreatestSaid : Prop := fnMaxGreatestRow.holds Tryd.pinned (OpenSpec.ofChange fnMaxGreatestSpec)

/-- ITS FALSE NEIGHBOUR: 'it returns false'. Refute it at one input. -/
def fnMaxGreatestWrong : ChangeSpec := { name := "fnMaxGreatest", fn := fun _ => fun
  | [d] => { results := [.lit (.bool false)], args := [d] }
  | _ => none }
def FnMaxGreatestWrongFalsely : Prop := fnMaxGreatestRow.holds Tryd.pinned (OpenSpec.ofChange fnMaxGreatestWrong)

/- THE SECOND FORM. 'bulk': how many values and letters a reading holds, each counted each time it is reached (what is shared counts as often as it is met; a slice's spare places count too). A statement '..UptoSaid' is the law's where the arguments, and the package variables that the reading takes, are together of bulk at most 1048576: NARROWER than '..Said'. Prove '..Said' where nothing that the law and all that it calls make is longer than what came in: it says more and counts as full. Else prove '..UptoSaid'. A law counts once. -/
mutual
def uptoBulk {H : Type} : DataW H → Nat
  | .lit (.string bytes) => bytes.length + 1
  | .lit _ => 1
  | .nil => 1
  | .ptr d => uptoBulk d + 1
  | .slice elems spare => uptoBulkAll elems + uptoBulkAll spare + 1
  | .agg parts => uptoBulkAll parts + 1
  | .iface _ d => uptoBulk d + 1
  | .map entries => uptoBulkEntries entries + 1
  | .held _ => 1
def uptoBulkAll {H : Type} : List (DataW H) → Nat
  | [] => 0
  | d :: r => uptoBulk d + uptoBulkAll r
def uptoBulkEntries {H : Type} : List (Lit × DataW H) → Nat
  | [] => 0
  | x :: r => uptoBulkEntry x + uptoBulkEntries r
def uptoBulkEntry {H : Type} : Lit × DataW H → Nat
  | (.string bytes, d) => bytes.length + uptoBulk d + 1
  | (_, d) => uptoBulk d + 1
 end
def uptoSmall : (H : Type) → List (DataW H) → Bool := fun _ ds => decide (uptoBulkAll ds ≤ 1048576)
def OpenSpec.upto (s : _root_.Go.ChangeSpec) : _root_.Go.OpenSpec := { _root_.Go.OpenSpec.ofChange s with cond := some uptoSmall }

/-- 'laws.FnTypeCheckFits', WHERE WHAT IT READS IS OF BULK AT MOST 1048576: true; the input reads as it did. -/
def fnTypeCheckFitsUptoRow : OpenClaim := { program := "ytiijcmdfbgoafaadoor", sum := "247163b87b98d120e260cd757bd60ca6d316d9b7412e5171bcf64e31540b9aa4", func := "pub-quern/laws.FnTypeCheckFits", spec := "fnTypeCheckFits", inPlace := ["math.archFloor", "math.Float64bits", "math.Float64frombits", "math.archTrunc"], named := ["pub-quern/pub/ql.errDivByZero"], apart := false, laid := [("pub-quern/pub/ql.errDivByZero", laid_pub_quern_pub_ql_errDivByZero)], narrowed := true }
def FnTypeCheckFitsUptoSaid : Prop := fnTypeCheckFitsUptoRow.holds Tryd.pinned (OpenSpec.upto fnTypeCheckFitsSpec)

/-- 'laws.FnConvertFloats', WHERE WHAT IT READS IS OF BULK AT MOST 1048576: true; the input reads as it did. -/
def fnConvertFloatsUptoRow : OpenClaim := { program := "ytiijcmdfbgoafaadoor", sum := "247163b87b98d120e260cd757bd60ca6d316d9b7412e5171bcf64e31540b9aa4", func := "pub-quern/laws.FnConvertFloats", spec := "fnConvertFloats", inPlace := ["math.Float64bits", "math.archTrunc", "math.Float64frombits"], named := ["pub-quern/pub/ql.errDivByZero"], apart := false, laid := [("pub-quern/pub/ql.errDivByZero", laid_pub_quern_pub_ql_errDivByZero)], narrowed := true }
def FnConvertFloatsUptoSaid : Prop := fnConvertFloatsUptoRow.holds Tryd.pinned (OpenSpec.upto fnConvertFloatsSpec)

/-- 'laws.FnConvertKinds', WHERE WHAT IT READS IS OF BULK AT MOST 1048576: true; the input reads as it did. -/
def fnConvertKindsUptoRow : OpenClaim := { program := "ytiijcmdfbgoafaadoor", sum := "247163b87b98d120e260cd757bd60ca6d316d9b7412e5171bcf64e31540b9aa4", func := "pub-quern/laws.FnConvertKinds", spec := "fnConvertKinds", inPlace := ["math.Float64bits", "math.archTrunc", "math.Float64frombits"], named := ["pub-quern/pub/ql.errDivByZero"], apart := false, laid := [("pub-quern/pub/ql.errDivByZero", laid_pub_quern_pub_ql_errDivByZero)], narrowed := true }
def FnConvertKindsUptoSaid : Prop := fnConvertKindsUptoRow.holds Tryd.pinned (OpenSpec.upto fnConvertKindsSpec)

/-- 'laws.FnConvertNull', WHERE WHAT IT READS IS OF BULK AT MOST 1048576: true; the input reads as it did. -/
def fnConvertNullUptoRow : OpenClaim := { program := "ytiijcmdfbgoafaadoor", sum := "247163b87b98d120e260cd757bd60ca6d316d9b7412e5171bcf64e31540b9aa4", func := "pub-quern/laws.FnConvertNull", spec := "fnConvertNull", inPlace := ["math.archTrunc", "math.Float64bits", "math.Float64frombits"], named := ["pub-quern/pub/ql.errDivByZero"], apart := false, laid := [("pub-quern/pub/ql.errDivByZero", laid_pub_quern_pub_ql_errDivByZero)], narrowed := true }
def FnConvertNullUptoSaid : Prop := fnConvertNullUptoRow.holds Tryd.pinned (OpenSpec.upto fnConvertNullSpec)

/-- 'laws.FnMaxGreatest', WHERE WHAT IT READS IS OF BULK AT MOST 1048576: true; the input reads as it did. -/
def fnMaxGreatestUptoRow : OpenClaim := { program := "ytiijcmdfbgoafaadoor", sum := "247163b87b98d120e260cd757bd60ca6d316d9b7412e5171bcf64e31540b9aa4", func := "pub-quern/laws.FnMaxGreatest", spec := "fnMaxGreatest", inPlace := ["internal/bytealg.Compare", "math.Float64bits"], unfollowed := true, recurses := true, named := ["pub-quern/pub/ql.errDivByZero"], apart := false, laid := [("pub-quern/pub/ql.errDivByZero", laid_pub_quern_pub_ql_errDivByZero)], narrowed := true }
def FnMaxGreatestUptoSaid : Prop := fnMaxGreatestUptoRow.holds Tryd.pinned (OpenSpec.upto fnMaxGreatestSpec)

end Rows
end Go.Proofs.YtiijcmdfbgoafaaDoor
