/-
  No cell of these rows narrows 'for every input' (looked for: loops, veiled, ifaces, maps, wideKeys, modest, calm, conditions, laid).
  DERIVED. THE GIVEN ROWS OF THIS SEAT. 6 by the template 'for every input the law returns true; each argument reads behind the call as it read before'; 0 by the template 'total and deterministic' (their statements: YtamekjbdpcflfaaTotals.lean).
  GIVEN WITH THE SEED: the statements are not yours to turn. If you find one false, say at which input.
  Laid BY PROGRAM, IN A SANDBOX (cutbox-rows.mjs): the forced cells as the released guide's own fill.sh prints them over the translation e28d7cafa727bcf9… (all of the seat's roots in one cut). By AI agents, Wed Nov 11 2026. No macro, syntax, notation, axiom, sorry.
-/
import Derived.Test.YtamekjbdpcflfaaChecked
import GoSem.Claim
import GoSem.ClaimJoined
import GoSem.ClaimMapViews
import Derived.JoinedTies
import Derived.KernelRfl
namespace Go.Proofs.Ytamekjbdpcflfaa
/- THE CELL 'sum', in the pinned program and in every row, IS THE sha256 OF THE DUMP (.gsa) THAT YtamekjbdpcflfaaProg.lean LOADS. Nothing in Lean hashes anything: it is a label: what it is worth is what the hold of that sum in a sandbox is worth. -/
noncomputable def Try.pinned : Pinned := { name := "ytamekjbdpcflfaa", sum := "e28d7cafa727bcf965cd0977a56cc703dc73b937b4ebc257cfe3d98846934ad7", checked := Try.checked }
namespace Rows
def none {H : Type} : Left H := { results := [], args := [] }

/-- 'laws.FnExactOrdered': WHATEVER THE INPUT: true; the input reads as it did. -/
def fnExactOrderedSpec : ChangeSpec := { name := "fnExactOrdered", fn := fun _ => fun
  | [d] => { results := [.lit (.bool true)], args := [d] }
  | _ => none }
def fnExactOrderedRow : OpenClaim := { program := "ytamekjbdpcflfaa", sum := "e28d7cafa727bcf965cd0977a56cc703dc73b937b4ebc257cfe3d98846934ad7", func := "pub-quern/laws.FnExactOrdered", spec := "fnExactOrdered", inPlace := ["math.Float64bits"], apart := false }
def FnExactOrderedSaid : Prop := fnExactOrderedRow.holds Try.pinned (OpenSpec.ofChange fnExactOrderedSpec)

/-- ITS FALSE NEIGHBOUR: 'it returns false'. Refute it at one input. -/
def fnExactOrderedWrong : ChangeSpec := { name := "fnExactOrdered", fn := fun _ => fun
  | [d] => { results := [.lit (.bool false)], args := [d] }
  | _ => none }
def FnExactOrderedWrongFalsely : Prop := fnExactOrderedRow.holds Try.pinned (OpenSpec.ofChange fnExactOrderedWrong)

/-- 'laws.FnOrderedTypes': WHATEVER THE INPUT: true; the input reads as it did. -/
def fnOrderedTypesSpec : ChangeSpec := { name := "fnOrderedTypes", fn := fun _ => fun
  | [d] => { results := [.lit (.bool true)], args := [d] }
  | _ => none }
def fnOrderedTypesRow : OpenClaim := { program := "ytamekjbdpcflfaa", sum := "e28d7cafa727bcf965cd0977a56cc703dc73b937b4ebc257cfe3d98846934ad7", func := "pub-quern/laws.FnOrderedTypes", spec := "fnOrderedTypes", inPlace := ["math.Float64bits"], apart := false }
def FnOrderedTypesSaid : Prop := fnOrderedTypesRow.holds Try.pinned (OpenSpec.ofChange fnOrderedTypesSpec)

/-- ITS FALSE NEIGHBOUR: 'it returns false'. Refute it at one input. -/
def fnOrderedTypesWrong : ChangeSpec := { name := "fnOrderedTypes", fn := fun _ => fun
  | [d] => { results := [.lit (.bool false)], args := [d] }
  | _ => none }
def FnOrderedTypesWrongFalsely : Prop := fnOrderedTypesRow.holds Try.pinned (OpenSpec.ofChange fnOrderedTypesWrong)

/-- 'laws.FnIdealKinds': WHATEVER THE INPUT: true; the input reads as it did. -/
def fnIdealKindsSpec : ChangeSpec := { name := "fnIdealKinds", fn := fun _ => fun
  | [d] => { results := [.lit (.bool true)], args := [d] }
  | _ => none }
def fnIdealKindsRow : OpenClaim := { program := "ytamekjbdpcflfaa", sum := "e28d7cafa727bcf965cd0977a56cc703dc73b937b4ebc257cfe3d98846934ad7", func := "pub-quern/laws.FnIdealKinds", spec := "fnIdealKinds", inPlace := ["math.Float64bits"], apart := false }
def FnIdealKindsSaid : Prop := fnIdealKindsRow.holds Try.pinned (OpenSpec.ofChange fnIdealKindsSpec)

/-- ITS FALSE NEIGHBOUR: 'it returns false'. Refute it at one input. -/
def fnIdealKindsWrong : ChangeSpec := { name := "fnIdealKinds", fn := fun _ => fun
  | [d] => { results := [.lit (.bool false)], args := [d] }
  | _ => none }
def FnIdealKindsWrongFalsely : Prop := fnIdealKindsRow.holds Try.pinned (OpenSpec.ofChange fnIdealKindsWrong)

/-- 'laws.FnFitsTypes': WHATEVER THE INPUT: true; the input reads as it did. -/
def fnFitsTypesSpec : ChangeSpec := { name := "fnFitsTypes", fn := fun _ => fun
  | [d1, d2] => { results := [.lit (.bool true)], args := [d1, d2] }
  | _ => none }
def fnFitsTypesRow : OpenClaim := { program := "ytamekjbdpcflfaa", sum := "e28d7cafa727bcf965cd0977a56cc703dc73b937b4ebc257cfe3d98846934ad7", func := "pub-quern/laws.FnFitsTypes", spec := "fnFitsTypes", apart := false }
def FnFitsTypesSaid : Prop := fnFitsTypesRow.holds Try.pinned (OpenSpec.ofChange fnFitsTypesSpec)

/-- ITS FALSE NEIGHBOUR: 'it returns false'. Refute it at one input. -/
def fnFitsTypesWrong : ChangeSpec := { name := "fnFitsTypes", fn := fun _ => fun
  | [d1, d2] => { results := [.lit (.bool false)], args := [d1, d2] }
  | _ => none }
def FnFitsTypesWrongFalsely : Prop := fnFitsTypesRow.holds Try.pinned (OpenSpec.ofChange fnFitsTypesWrong)

/-- 'laws.FnCoerceTypes': WHATEVER THE INPUT: true; the input reads as it did. -/
def fnCoerceTypesSpec : ChangeSpec := { name := "fnCoerceTypes", fn := fun _ => fun
  | [d1, d2] => { results := [.lit (.bool true)], args := [d1, d2] }
  | _ => none }
def fnCoerceTypesRow : OpenClaim := { program := "ytamekjbdpcflfaa", sum := "e28d7cafa727bcf965cd0977a56cc703dc73b937b4ebc257cfe3d98846934ad7", func := "pub-quern/laws.FnCoerceTypes", spec := "fnCoerceTypes", inPlace := ["math.Float64bits"], apart := false }
def FnCoerceTypesSaid : Prop := fnCoerceTypesRow.holds Try.pinned (OpenSpec.ofChange fnCoerceTypesSpec)

/-- ITS FALSE NEIGHBOUR: 'it returns false'. Refute it at one input. -/
def fnCoerceTypesWrong : ChangeSpec := { name := "fnCoerceTypes", fn := fun _ => fun
  | [d1, d2] => { results := [.lit (.bool false)], args := [d1, d2] }
  | _ => none }
def FnCoerceTypesWrongFalsely : Prop := fnCoerceTypesRow.holds Try.pinned (OpenSpec.ofChange fnCoerceTypesWrong)

/-- 'laws.FnCoerceIntegers': WHATEVER THE INPUT: true; the input reads as it did. -/
def fnCoerceIntegersSpec : ChangeSpec := { name := "fnCoerceIntegers", fn := fun _ => fun
  | [d1, d2] => { results := [.lit (.bool true)], args := [d1, d2] }
  | _ => none }
def fnCoerceIntegersRow : OpenClaim := { program := "ytamekjbdpcflfaa", sum := "e28d7cafa727bcf965cd0977a56cc703dc73b937b4ebc257cfe3d98846934ad7", func := "pub-quern/laws.FnCoerceIntegers", spec := "fnCoerceIntegers", inPlace := ["math.Float64bits"], apart := false }
def FnCoerceIntegersSaid : Prop := fnCoerceIntegersRow.holds Try.pinned (OpenSpec.ofChange fnCoerceIntegersSpec)

/-- ITS FALSE NEIGHBOUR: 'it returns false'. Refute it at one input. -/
def fnCoerceIntegersWrong : ChangeSpec := { name := "fnCoerceIntegers", fn := fun _ => fun
  | [d1, d2] => { results := [.lit (.bool false)], args := [d1, d2] }
  | _ => none }
def FnCoerceIntegersWrongFalsely : Prop := fnCoerceIntegersRow.holds Try.pinned (OpenSpec.ofChange fnCoerceIntegersWrong)

/- THE SECOND FORM. 'bulk': how many values and letters a reading holds, each counted each time it is reached (what is shared counts as often as it is met; a slice's spare places count too). A statement '..UptoSaid' is the law's where the arguments, and the package variables that the reading takes, are together of bulk at most 1048576: NARROWER than '..Said'. Prove '..Said' where nothing that the law and all that it calls make is longer than what came in: it says more and counts as full. Else prove '..UptoSaid'. A law counts once. -/
mutual
def uptoBulk {H : Type} : DataW H → Nat
  | .lit (.string bytes) => bytes.length + 1
  | .lit _ => 1
  | .nil => 1
  | .ptr d => uptoBulk d + 1
  | .slice elems spare => uptoBulkAll elems + uptoBulkAll spare + 1
  | .agg parts => uptoBulkAll parts + 1
  | .iface _ d => uptoBulk d + 1
  | .map entries => uptoBulkEntries entries + 1
  | .held _ => 1
def uptoBulkAll {H : Type} : List (DataW H) → Nat
  | [] => 0
  | d :: r => uptoBulk d + uptoBulkAll r
def uptoBulkEntries {H : Type} : List (Lit × DataW H) → Nat
  | [] => 0
  | x :: r => uptoBulkEntry x + uptoBulkEntries r
def uptoBulkEntry {H : Type} : Lit × DataW H → Nat
  | (.string bytes, d) => bytes.length + uptoBulk d + 1
  | (_, d) => uptoBulk d + 1
 end
def uptoSmall : (H : Type) → List (DataW H) → Bool := fun _ ds => decide (uptoBulkAll ds ≤ 1048576)
def OpenSpec.upto (s : _root_.Go.ChangeSpec) : _root_.Go.OpenSpec := { _root_.Go.OpenSpec.ofChange s with cond := some uptoSmall }

/-- 'laws.FnExactOrdered', WHERE WHAT IT READS IS OF BULK AT MOST 1048576: true; the input reads as it did. -/
def fnExactOrderedUptoRow : OpenClaim := { program := "ytamekjbdpcflfaa", sum := "e28d7cafa727bcf965cd0977a56cc703dc73b937b4ebc257cfe3d98846934ad7", func := "pub-quern/laws.FnExactOrdered", spec := "fnExactOrdered", inPlace := ["math.Float64bits"], apart := false, narrowed := true }
def FnExactOrderedUptoSaid : Prop := fnExactOrderedUptoRow.holds Try.pinned (OpenSpec.upto fnExactOrderedSpec)

/-- 'laws.FnOrderedTypes', WHERE WHAT IT READS IS OF BULK AT MOST 1048576: true; the input reads as it did. -/
def fnOrderedTypesUptoRow : OpenClaim := { program := "ytamekjbdpcflfaa", sum := "e28d7cafa727bcf965cd0977a56cc703dc73b937b4ebc257cfe3d98846934ad7", func := "pub-quern/laws.FnOrderedTypes", spec := "fnOrderedTypes", inPlace := ["math.Float64bits"], apart := false, narrowed := true }
def FnOrderedTypesUptoSaid : Prop := fnOrderedTypesUptoRow.holds Try.pinned (OpenSpec.upto fnOrderedTypesSpec)

/-- 'laws.FnIdealKinds', WHERE WHAT IT READS IS OF BULK AT MOST 1048576: true; the input reads as it did. -/
def fnIdealKindsUptoRow : OpenClaim := { program := "ytamekjbdpcflfaa", sum := "e28d7cafa727bcf965cd0977a56cc703dc73b937b4ebc257cfe3d98846934ad7", func := "pub-quern/laws.FnIdealKinds", spec := "fnIdealKinds", inPlace := ["math.Float64bits"], apart := false, narrowed := true }
def FnIdealKindsUptoSaid : Prop := fnIdealKindsUptoRow.holds Try.pinned (OpenSpec.upto fnIdealKindsSpec)

/-- 'laws.FnFitsTypes', WHERE WHAT IT READS IS OF BULK AT MOST 1048576: true; the input reads as it did. -/
def fnFitsTypesUptoRow : OpenClaim := { program := "ytamekjbdpcflfaa", sum := "e28d7cafa727bcf965cd0977a56cc703dc73b937b4ebc257cfe3d98846934ad7", func := "pub-quern/laws.FnFitsTypes", spec := "fnFitsTypes", apart := false, narrowed := true }
def FnFitsTypesUptoSaid : Prop := fnFitsTypesUptoRow.holds Try.pinned (OpenSpec.upto fnFitsTypesSpec)

/-- 'laws.FnCoerceTypes', WHERE WHAT IT READS IS OF BULK AT MOST 1048576: true; the input reads as it did. -/
def fnCoerceTypesUptoRow : OpenClaim := { program := "ytamekjbdpcflfaa", sum := "e28d7cafa727bcf965cd0977a56cc703dc73b937b4ebc257cfe3d98846934ad7", func := "pub-quern/laws.FnCoerceTypes", spec := "fnCoerceTypes", inPlace := ["math.Float64bits"], apart := false, narrowed := true }
def FnCoerceTypesUptoSaid : Prop := fnCoerceTypesUptoRow.holds Try.pinned (OpenSpec.upto fnCoerceTypesSpec)

/-- 'laws.FnCoerceIntegers', WHERE WHAT IT READS IS OF BULK AT MOST 1048576: true; the input reads as it did. -/
def fnCoerceIntegersUptoRow : OpenClaim := { program := "ytamekjbdpcflfaa", sum := "e28d7cafa727bcf965cd0977a56cc703dc73b937b4ebc257cfe3d98846934ad7", func := "pub-quern/laws.FnCoerceIntegers", spec := "fnCoerceIntegers", inPlace := ["math.Float64bits"], apart := false, narrowed := true }
def FnCoerceIntegersUptoSaid : Prop := fnCoerceIntegersUptoRow.holds Try.pinned (OpenSpec.upto fnCoerceIntegersSpec)

end Rows
end Go.Proofs.Ytamekjbdpcflfaa
