/-
  No cell of these rows narrows 'for every input' (looked for: loops, veiled, ifaces, maps, wideKeys, modest, calm, conditions, laid).
  DERIVED. THE GIVEN ROWS OF THIS SEAT. 5 by the template 'for every input the law returns true; each argument reads behind the call as it read before'; 0 by the template 'total and deterministic' (their statements: YtiijcmdfbgoafaaTotals.lean).
  GIVEN WITH THE SEED: the statements are not yours to turn. If you find one false, say at which input.
  Laid BY PROGRAM, IN A SANDBOX (cutbox-rows.mjs): the forced cells as the released guide's own fill.sh prints them over the translation fa3fc3afc3f1981c… (all of the seat's roots in one cut). By AI agents, Wed Nov 11 2026. No macro, syntax, notation, axiom, sorry.
-/
import Derived.Test.YtiijcmdfbgoafaaChecked
import GoSem.Claim
import GoSem.ClaimJoined
import GoSem.ClaimMapViews
import Derived.JoinedTies
import Derived.KernelRfl
namespace Go.Proofs.Ytiijcmdfbgoafaa
/- THE CELL 'sum', in the pinned program and in every row, IS THE sha256 OF THE DUMP (.gsa) THAT YtiijcmdfbgoafaaProg.lean LOADS. Nothing in Lean hashes anything: it is a label: what it is worth is what the hold of that sum in a sandbox is worth. -/
noncomputable def Try.pinned : Pinned := { name := "ytiijcmdfbgoafaa", sum := "fa3fc3afc3f1981c3c577b99d3761496c256ab76ffd03c8c05aab001fb77be8b", checked := Try.checked }
namespace Rows
def none {H : Type} : Left H := { results := [], args := [] }

/-- 'laws.FnCollateChains': WHATEVER THE INPUT: true; the input reads as it did. -/
def fnCollateChainsSpec : ChangeSpec := { name := "fnCollateChains", fn := fun _ => fun
  | [d1, d2, d3] => { results := [.lit (.bool true)], args := [d1, d2, d3] }
  | _ => none }
def fnCollateChainsRow : OpenClaim := { program := "ytiijcmdfbgoafaa", sum := "fa3fc3afc3f1981c3c577b99d3761496c256ab76ffd03c8c05aab001fb77be8b", func := "pub-quern/laws.FnCollateChains", spec := "fnCollateChains", inPlace := ["math.Float64bits", "internal/bytealg.Compare"], apart := false }
def FnCollateChainsSaid : Prop := fnCollateChainsRow.holds Try.pinned (OpenSpec.ofChange fnCollateChainsSpec)

/-- ITS FALSE NEIGHBOUR: 'it returns false'. Refute it at one input. -/
def fnCollateChainsWrong : ChangeSpec := { name := "fnCollateChains", fn := fun _ => fun
  | [d1, d2, d3] => { results := [.lit (.bool false)], args := [d1, d2, d3] }
  | _ => none }
def FnCollateChainsWrongFalsely : Prop := fnCollateChainsRow.holds Try.pinned (OpenSpec.ofChange fnCollateChainsWrong)

/-- 'laws.FnCollateFloats': WHATEVER THE INPUT: true; the input reads as it did. -/
def fnCollateFloatsSpec : ChangeSpec := { name := "fnCollateFloats", fn := fun _ => fun
  | [d1, d2] => { results := [.lit (.bool true)], args := [d1, d2] }
  | _ => none }
def fnCollateFloatsRow : OpenClaim := { program := "ytiijcmdfbgoafaa", sum := "fa3fc3afc3f1981c3c577b99d3761496c256ab76ffd03c8c05aab001fb77be8b", func := "pub-quern/laws.FnCollateFloats", spec := "fnCollateFloats", inPlace := ["math.Float64bits", "internal/bytealg.Compare"], apart := false }
def FnCollateFloatsSaid : Prop := fnCollateFloatsRow.holds Try.pinned (OpenSpec.ofChange fnCollateFloatsSpec)

/-- ITS FALSE NEIGHBOUR: 'it returns false'. Refute it at one input. -/
def fnCollateFloatsWrong : ChangeSpec := { name := "fnCollateFloats", fn := fun _ => fun
  | [d1, d2] => { results := [.lit (.bool false)], args := [d1, d2] }
  | _ => none }
def FnCollateFloatsWrongFalsely : Prop := fnCollateFloatsRow.holds Try.pinned (OpenSpec.ofChange fnCollateFloatsWrong)

/-- 'laws.FnCollateRanks': WHATEVER THE INPUT: true; the input reads as it did. -/
def fnCollateRanksSpec : ChangeSpec := { name := "fnCollateRanks", fn := fun _ => fun
  | [d1, d2] => { results := [.lit (.bool true)], args := [d1, d2] }
  | _ => none }
def fnCollateRanksRow : OpenClaim := { program := "ytiijcmdfbgoafaa", sum := "fa3fc3afc3f1981c3c577b99d3761496c256ab76ffd03c8c05aab001fb77be8b", func := "pub-quern/laws.FnCollateRanks", spec := "fnCollateRanks", inPlace := ["math.Float64bits", "internal/bytealg.Compare"], apart := false }
def FnCollateRanksSaid : Prop := fnCollateRanksRow.holds Try.pinned (OpenSpec.ofChange fnCollateRanksSpec)

/-- ITS FALSE NEIGHBOUR: 'it returns false'. Refute it at one input. -/
def fnCollateRanksWrong : ChangeSpec := { name := "fnCollateRanks", fn := fun _ => fun
  | [d1, d2] => { results := [.lit (.bool false)], args := [d1, d2] }
  | _ => none }
def FnCollateRanksWrongFalsely : Prop := fnCollateRanksRow.holds Try.pinned (OpenSpec.ofChange fnCollateRanksWrong)

/-- 'laws.FnExactCollateRows': WHATEVER THE INPUT: true; the input reads as it did. -/
def fnExactCollateRowsSpec : ChangeSpec := { name := "fnExactCollateRows", fn := fun _ => fun
  | [d1, d2] => { results := [.lit (.bool true)], args := [d1, d2] }
  | _ => none }
def fnExactCollateRowsRow : OpenClaim := { program := "ytiijcmdfbgoafaa", sum := "fa3fc3afc3f1981c3c577b99d3761496c256ab76ffd03c8c05aab001fb77be8b", func := "pub-quern/laws.FnExactCollateRows", spec := "fnExactCollateRows", inPlace := ["math.Float64bits", "internal/bytealg.Compare"], apart := false }
def FnExactCollateRowsSaid : Prop := fnExactCollateRowsRow.holds Try.pinned (OpenSpec.ofChange fnExactCollateRowsSpec)

/-- ITS FALSE NEIGHBOUR: 'it returns false'. Refute it at one input. -/
def fnExactCollateRowsWrong : ChangeSpec := { name := "fnExactCollateRows", fn := fun _ => fun
  | [d1, d2] => { results := [.lit (.bool false)], args := [d1, d2] }
  | _ => none }
def FnExactCollateRowsWrongFalsely : Prop := fnExactCollateRowsRow.holds Try.pinned (OpenSpec.ofChange fnExactCollateRowsWrong)

/-- 'laws.FnKeyCompares': WHATEVER THE INPUT: true; the input reads as it did. -/
def fnKeyComparesSpec : ChangeSpec := { name := "fnKeyCompares", fn := fun _ => fun
  | [d1, d2] => { results := [.lit (.bool true)], args := [d1, d2] }
  | _ => none }
def fnKeyComparesRow : OpenClaim := { program := "ytiijcmdfbgoafaa", sum := "fa3fc3afc3f1981c3c577b99d3761496c256ab76ffd03c8c05aab001fb77be8b", func := "pub-quern/laws.FnKeyCompares", spec := "fnKeyCompares", inPlace := ["internal/bytealg.Compare", "math.Float64bits"], apart := false }
def FnKeyComparesSaid : Prop := fnKeyComparesRow.holds Try.pinned (OpenSpec.ofChange fnKeyComparesSpec)

/-- ITS FALSE NEIGHBOUR: 'it returns false'. Refute it at one input. -/
def fnKeyComparesWrong : ChangeSpec := { name := "fnKeyCompares", fn := fun _ => fun
  | [d1, d2] => { results := [.lit (.bool false)], args := [d1, d2] }
  | _ => none }
def FnKeyComparesWrongFalsely : Prop := fnKeyComparesRow.holds Try.pinned (OpenSpec.ofChange fnKeyComparesWrong)

/- THE SECOND FORM. 'bulk': how many values and letters a reading holds, each counted each time it is reached (what is shared counts as often as it is met; a slice's spare places count too). A statement '..UptoSaid' is the law's where the arguments, and the package variables that the reading takes, are together of bulk at most 1048576: NARROWER than '..Said'. Prove '..Said' where nothing that the law and all that it calls make is longer than what came in: it says more and counts as full. Else prove '..UptoSaid'. A law counts once. -/
mutual
def uptoBulk {H : Type} : DataW H → Nat
  | .lit (.string bytes) => bytes.length + 1
  | .lit _ => 1
  | .nil => 1
  | .ptr d => uptoBulk d + 1
  | .slice elems spare => uptoBulkAll elems + uptoBulkAll spare + 1
  | .agg parts => uptoBulkAll parts + 1
  | .iface _ d => uptoBulk d + 1
  | .map entries => uptoBulkEntries entries + 1
  | .held _ => 1
def uptoBulkAll {H : Type} : List (DataW H) → Nat
  | [] => 0
  | d :: r => uptoBulk d + uptoBulkAll r
def uptoBulkEntries {H : Type} : List (Lit × DataW H) → Nat
  | [] => 0
  | x :: r => uptoBulkEntry x + uptoBulkEntries r
def uptoBulkEntry {H : Type} : Lit × DataW H → Nat
  | (.string bytes, d) => bytes.length + uptoBulk d + 1
  | (_, d) => uptoBulk d + 1
 end
def uptoSmall : (H : Type) → List (DataW H) → Bool := fun _ ds => decide (uptoBulkAll ds ≤ 1048576)
def OpenSpec.upto (s : _root_.Go.ChangeSpec) : _root_.Go.OpenSpec := { _root_.Go.OpenSpec.ofChange s with cond := some uptoSmall }

/-- 'laws.FnCollateChains', WHERE WHAT IT READS IS OF BULK AT MOST 1048576: true; the input reads as it did. -/
def fnCollateChainsUptoRow : OpenClaim := { program := "ytiijcmdfbgoafaa", sum := "fa3fc3afc3f1981c3c577b99d3761496c256ab76ffd03c8c05aab001fb77be8b", func := "pub-quern/laws.FnCollateChains", spec := "fnCollateChains", inPlace := ["math.Float64bits", "internal/bytealg.Compare"], apart := false, narrowed := true }
def FnCollateChainsUptoSaid : Prop := fnCollateChainsUptoRow.holds Try.pinned (OpenSpec.upto fnCollateChainsSpec)

/-- 'laws.FnCollateFloats', WHERE WHAT IT READS IS OF BULK AT MOST 1048576: true; the input reads as it did. -/
def fnCollateFloatsUptoRow : OpenClaim := { program := "ytiijcmdfbgoafaa", sum := "fa3fc3afc3f1981c3c577b99d3761496c256ab76ffd03c8c05aab001fb77be8b", func := "pub-quern/laws.FnCollateFloats", spec := "fnCollateFloats", inPlace := ["math.Float64bits", "internal/bytealg.Compare"], apart := false, narrowed := true }
def FnCollateFloatsUptoSaid : Prop := fnCollateFloatsUptoRow.holds Try.pinned (OpenSpec.upto fnCollateFloatsSpec)

/-- 'laws.FnCollateRanks', WHERE WHAT IT READS IS OF BULK AT MOST 1048576: true; the input reads as it did. -/
def fnCollateRanksUptoRow : OpenClaim := { program := "ytiijcmdfbgoafaa", sum := "fa3fc3afc3f1981c3c577b99d3761496c256ab76ffd03c8c05aab001fb77be8b", func := "pub-quern/laws.FnCollateRanks", spec := "fnCollateRanks", inPlace := ["math.Float64bits", "internal/bytealg.Compare"], apart := false, narrowed := true }
def FnCollateRanksUptoSaid : Prop := fnCollateRanksUptoRow.holds Try.pinned (OpenSpec.upto fnCollateRanksSpec)

/-- 'laws.FnExactCollateRows', WHERE WHAT IT READS IS OF BULK AT MOST 1048576: true; the input reads as it did. -/
def fnExactCollateRowsUptoRow : OpenClaim := { program := "ytiijcmdfbgoafaa", sum := "fa3fc3afc3f1981c3c577b99d3761496c256ab76ffd03c8c05aab001fb77be8b", func := "pub-quern/laws.FnExactCollateRows", spec := "fnExactCollateRows", inPlace := ["math.Float64bits", "internal/bytealg.Compare"], apart := false, narrowed := true }
def FnExactCollateRowsUptoSaid : Prop := fnExactCollateRowsUptoRow.holds Try.pinned (OpenSpec.upto fnExactCollateRowsSpec)

/-- 'laws.FnKeyCompares', WHERE WHAT IT READS IS OF BULK AT MOST 1048576: true; the input reads as it did. -/
def fnKeyComparesUptoRow : OpenClaim := { program := "ytiijcmdfbgoafaa", sum := "fa3fc3afc3f1981c3c577b99d3761496c256ab76ffd03c8c05aab001fb77be8b", func := "pub-quern/laws.FnKeyCompares", spec := "fnKeyCompares", inPlace := ["internal/bytealg.Compare", "math.Float64bits"], apart := false, narrowed := true }
def FnKeyComparesUptoSaid : Prop := fnKeyComparesUptoRow.holds Try.pinned (OpenSpec.upto fnKeyComparesSpec)

end Rows
end Go.Proofs.Ytiijcmdfbgoafaa
