/-
  NARROWER THAN 'FOR EVERY INPUT', by the rows' own cells (each row's printed sentence says how): FnBound: loops · FnExpanded: loops · FnExpandedMarks: loops · FnExpandedParts: loops.
  DERIVED. THE GIVEN ROWS OF THIS SEAT. 4 by the template 'for every input the law returns true; each argument reads behind the call as it read before'; 0 by the template 'total and deterministic' (their statements: YtlclbfhnllknkaaTotals.lean).
  GIVEN WITH THE SEED: the statements are not yours to turn. If you find one false, say at which input.
  Laid BY PROGRAM, IN A SANDBOX (cutbox-rows.mjs): the forced cells as the released guide's own fill.sh prints them over the translation 7b6b549c261e2f81… (all of the seat's roots in one cut). By AI agents, Wed Nov 11 2026. No macro, syntax, notation, axiom, sorry.
-/
import Derived.Test.YtlclbfhnllknkaaChecked
import GoSem.Claim
import GoSem.ClaimJoined
import GoSem.ClaimMapViews
import Derived.JoinedTies
import Derived.KernelRfl
namespace Go.Proofs.Ytlclbfhnllknkaa
/- THE CELL 'sum', in the pinned program and in every row, IS THE sha256 OF THE DUMP (.gsa) THAT YtlclbfhnllknkaaProg.lean LOADS. Nothing in Lean hashes anything: it is a label: what it is worth is what the hold of that sum in a sandbox is worth. -/
noncomputable def Try.pinned : Pinned := { name := "ytlclbfhnllknkaa", sum := "7b6b549c261e2f81a699292a3d9f504c4860aa4b8f2f50aff081410098087b1f", checked := Try.checked }
namespace Rows
def none {H : Type} : Left H := { results := [], args := [] }

/-- 'laws.FnBound': WHATEVER THE INPUT: true; the input reads as it did. -/
def fnBoundSpec : ChangeSpec := { name := "fnBound", fn := fun _ => fun
  | [d1, d2] => { results := [.lit (.bool true)], args := [d1, d2] }
  | _ => none }
def fnBoundRow : OpenClaim := { program := "ytlclbfhnllknkaa", sum := "7b6b549c261e2f81a699292a3d9f504c4860aa4b8f2f50aff081410098087b1f", func := "given.example/pub-conveyance/laws.FnBound", spec := "fnBound", recurses := true, loops := true, apart := false }
def FnBoundSaid : Prop := fnBoundRow.holds Try.pinned (OpenSpec.ofChange fnBoundSpec)

/-- ITS FALSE NEIGHBOUR: 'it returns false'. Refute it at one input. -/
def fnBoundWrong : ChangeSpec := { name := "fnBound", fn := fun _ => fun
  | [d1, d2] => { results := [.lit (.bool false)], args := [d1, d2] }
  | _ => none }
def FnBoundWrongFalsely : Prop := fnBoundRow.holds Try.pinned (OpenSpec.ofChange fnBoundWrong)

/-- 'laws.FnExpanded': WHATEVER THE INPUT: true; the input reads as it did. -/
def fnExpandedSpec : ChangeSpec := { name := "fnExpanded", fn := fun _ => fun
  | [d1, d2] => { results := [.lit (.bool true)], args := [d1, d2] }
  | _ => none }
def fnExpandedRow : OpenClaim := { program := "ytlclbfhnllknkaa", sum := "7b6b549c261e2f81a699292a3d9f504c4860aa4b8f2f50aff081410098087b1f", func := "given.example/pub-conveyance/laws.FnExpanded", spec := "fnExpanded", inPlace := ["internal/abi.NoEscape", "internal/bytealg.MakeNoZero"], recurses := true, loops := true, apart := false }
def FnExpandedSaid : Prop := fnExpandedRow.holds Try.pinned (OpenSpec.ofChange fnExpandedSpec)

/-- ITS FALSE NEIGHBOUR: 'it returns false'. Refute it at one input. -/
def fnExpandedWrong : ChangeSpec := { name := "fnExpanded", fn := fun _ => fun
  | [d1, d2] => { results := [.lit (.bool false)], args := [d1, d2] }
  | _ => none }
def FnExpandedWrongFalsely : Prop := fnExpandedRow.holds Try.pinned (OpenSpec.ofChange fnExpandedWrong)

/-- 'laws.FnExpandedMarks': WHATEVER THE INPUT: true; the input reads as it did. -/
def fnExpandedMarksSpec : ChangeSpec := { name := "fnExpandedMarks", fn := fun _ => fun
  | [d1, d2] => { results := [.lit (.bool true)], args := [d1, d2] }
  | _ => none }
def fnExpandedMarksRow : OpenClaim := { program := "ytlclbfhnllknkaa", sum := "7b6b549c261e2f81a699292a3d9f504c4860aa4b8f2f50aff081410098087b1f", func := "given.example/pub-conveyance/laws.FnExpandedMarks", spec := "fnExpandedMarks", inPlace := ["internal/abi.NoEscape", "internal/bytealg.MakeNoZero"], recurses := true, loops := true, apart := false }
def FnExpandedMarksSaid : Prop := fnExpandedMarksRow.holds Try.pinned (OpenSpec.ofChange fnExpandedMarksSpec)

/-- ITS FALSE NEIGHBOUR: 'it returns false'. Refute it at one input. -/
def fnExpandedMarksWrong : ChangeSpec := { name := "fnExpandedMarks", fn := fun _ => fun
  | [d1, d2] => { results := [.lit (.bool false)], args := [d1, d2] }
  | _ => none }
def FnExpandedMarksWrongFalsely : Prop := fnExpandedMarksRow.holds Try.pinned (OpenSpec.ofChange fnExpandedMarksWrong)

/-- 'laws.FnExpandedParts': WHATEVER THE INPUT: true; the input reads as it did. -/
def fnExpandedPartsSpec : ChangeSpec := { name := "fnExpandedParts", fn := fun _ => fun
  | [d1, d2, d3, d4] => { results := [.lit (.bool true)], args := [d1, d2, d3, d4] }
  | _ => none }
def fnExpandedPartsRow : OpenClaim := { program := "ytlclbfhnllknkaa", sum := "7b6b549c261e2f81a699292a3d9f504c4860aa4b8f2f50aff081410098087b1f", func := "given.example/pub-conveyance/laws.FnExpandedParts", spec := "fnExpandedParts", inPlace := ["internal/abi.NoEscape", "internal/bytealg.MakeNoZero"], recurses := true, loops := true, apart := false }
def FnExpandedPartsSaid : Prop := fnExpandedPartsRow.holds Try.pinned (OpenSpec.ofChange fnExpandedPartsSpec)

/-- ITS FALSE NEIGHBOUR: 'it returns false'. Refute it at one input. -/
def fnExpandedPartsWrong : ChangeSpec := { name := "fnExpandedParts", fn := fun _ => fun
  | [d1, d2, d3, d4] => { results := [.lit (.bool false)], args := [d1, d2, d3, d4] }
  | _ => none }
def FnExpandedPartsWrongFalsely : Prop := fnExpandedPartsRow.holds Try.pinned (OpenSpec.ofChange fnExpandedPartsWrong)

/- THE SECOND FORM. 'bulk': how many values and letters a reading holds, each counted each time it is reached (what is shared counts as often as it is met; a slice's spare places count too). A statement '..UptoSaid' is the law's where the arguments, and the package variables that the reading takes, are together of bulk at most 1048576: NARROWER than '..Said'. Prove '..Said' where nothing that the law and all that it calls make is longer than what came in: it says more and counts as full. Else prove '..UptoSaid'. A law counts once. -/
mutual
def uptoBulk {H : Type} : DataW H → Nat
  | .lit (.string bytes) => bytes.length + 1
  | .lit _ => 1
  | .nil => 1
  | .ptr d => uptoBulk d + 1
  | .slice elems spare => uptoBulkAll elems + uptoBulkAll spare + 1
  | .agg parts => uptoBulkAll parts + 1
  | .iface _ d => uptoBulk d + 1
  | .map entries => uptoBulkEntries entries + 1
  | .held _ => 1
def uptoBulkAll {H : Type} : List (DataW H) → Nat
  | [] => 0
  | d :: r => uptoBulk d + uptoBulkAll r
def uptoBulkEntries {H : Type} : List (Lit × DataW H) → Nat
  | [] => 0
  | x :: r => uptoBulkEntry x + uptoBulkEntries r
def uptoBulkEntry {H : Type} : Lit × DataW H → Nat
  | (.string bytes, d) => bytes.length + uptoBulk d + 1
  | (_, d) => uptoBulk d + 1
 end
def uptoSmall : (H : Type) → List (DataW H) → Bool := fun _ ds => decide (uptoBulkAll ds ≤ 1048576)
def OpenSpec.upto (s : _root_.Go.ChangeSpec) : _root_.Go.OpenSpec := { _root_.Go.OpenSpec.ofChange s with cond := some uptoSmall }

/-- 'laws.FnBound', WHERE WHAT IT READS IS OF BULK AT MOST 1048576: true; the input reads as it did. -/
def fnBoundUptoRow : OpenClaim := { program := "ytlclbfhnllknkaa", sum := "7b6b549c261e2f81a699292a3d9f504c4860aa4b8f2f50aff081410098087b1f", func := "given.example/pub-conveyance/laws.FnBound", spec := "fnBound", recurses := true, loops := true, apart := false, narrowed := true }
def FnBoundUptoSaid : Prop := fnBoundUptoRow.holds Try.pinned (OpenSpec.upto fnBoundSpec)

/-- 'laws.FnExpanded', WHERE WHAT IT READS IS OF BULK AT MOST 1048576: true; the input reads as it did. -/
def fnExpandedUptoRow : OpenClaim := { program := "ytlclbfhnllknkaa", sum := "7b6b549c261e2f81a699292a3d9f504c4860aa4b8f2f50aff081410098087b1f", func := "given.example/pub-conveyance/laws.FnExpanded", spec := "fnExpanded", inPlace := ["internal/abi.NoEscape", "internal/bytealg.MakeNoZero"], recurses := true, loops := true, apart := false, narrowed := true }
def FnExpandedUptoSaid : Prop := fnExpandedUptoRow.holds Try.pinned (OpenSpec.upto fnExpandedSpec)

/-- 'laws.FnExpandedMarks', WHERE WHAT IT READS IS OF BULK AT MOST 1048576: true; the input reads as it did. -/
def fnExpandedMarksUptoRow : OpenClaim := { program := "ytlclbfhnllknkaa", sum := "7b6b549c261e2f81a699292a3d9f504c4860aa4b8f2f50aff081410098087b1f", func := "given.example/pub-conveyance/laws.FnExpandedMarks", spec := "fnExpandedMarks", inPlace := ["internal/abi.NoEscape", "internal/bytealg.MakeNoZero"], recurses := true, loops := true, apart := false, narrowed := true }
def FnExpandedMarksUptoSaid : Prop := fnExpandedMarksUptoRow.holds Try.pinned (OpenSpec.upto fnExpandedMarksSpec)

/-- 'laws.FnExpandedParts', WHERE WHAT IT READS IS OF BULK AT MOST 1048576: true; the input reads as it did. -/
def fnExpandedPartsUptoRow : OpenClaim := { program := "ytlclbfhnllknkaa", sum := "7b6b549c261e2f81a699292a3d9f504c4860aa4b8f2f50aff081410098087b1f", func := "given.example/pub-conveyance/laws.FnExpandedParts", spec := "fnExpandedParts", inPlace := ["internal/abi.NoEscape", "internal/bytealg.MakeNoZero"], recurses := true, loops := true, apart := false, narrowed := true }
def FnExpandedPartsUptoSaid : Prop := fnExpandedPartsUptoRow.holds Try.pinned (OpenSpec.upto fnExpandedPartsSpec)

end Rows
end Go.Proofs.Ytlclbfhnllknkaa
