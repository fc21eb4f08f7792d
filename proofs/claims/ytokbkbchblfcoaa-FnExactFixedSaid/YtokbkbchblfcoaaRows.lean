/-
  No cell of these rows narrows 'for every input' (looked for: loops, veiled, ifaces, maps, wideKeys, modest, calm, conditions, laid).
  DERIVED. THE GIVEN ROWS OF THIS SEAT. 6 by the template 'for every input the law returns true; each argument reads behind the call as it read before'; 0 by the template 'total and deterministic' (their statements: YtokbkbchblfcoaaTotals.lean).
  GIVEN WITH THE SEED: the statements are not yours to turn. If you find one false, say at which input.
  Laid BY PROGRAM, IN A SANDBOX (cutbox-rows.mjs): the forced cells as the released guide's own fill.sh prints them over the translation ea13ac8758e677d5… (all of the seat's roots in one cut). By AI agents, Wed Nov 11 2026. No macro, syntax, notation, axiom, sorry.
-/
import Derived.Test.YtokbkbchblfcoaaChecked
import GoSem.Claim
import GoSem.ClaimJoined
import GoSem.ClaimMapViews
import Derived.JoinedTies
import Derived.KernelRfl
namespace Go.Proofs.Ytokbkbchblfcoaa
/- THE CELL 'sum', in the pinned program and in every row, IS THE sha256 OF THE DUMP (.gsa) THAT YtokbkbchblfcoaaProg.lean LOADS. Nothing in Lean hashes anything: it is a label: what it is worth is what the hold of that sum in a sandbox is worth. -/
noncomputable def Try.pinned : Pinned := { name := "ytokbkbchblfcoaa", sum := "ea13ac8758e677d5315de2a21923d339751fa0476e6820ebec9470e30c27d0ca", checked := Try.checked }
namespace Rows
def none {H : Type} : Left H := { results := [], args := [] }

/-- 'laws.FnExactReverse': WHATEVER THE INPUT: true; the input reads as it did. -/
def fnExactReverseSpec : ChangeSpec := { name := "fnExactReverse", fn := fun _ => fun
  | [d1, d2] => { results := [.lit (.bool true)], args := [d1, d2] }
  | _ => none }
def fnExactReverseRow : OpenClaim := { program := "ytokbkbchblfcoaa", sum := "ea13ac8758e677d5315de2a21923d339751fa0476e6820ebec9470e30c27d0ca", func := "loop.example/pub-codelengths/laws.FnExactReverse", spec := "fnExactReverse", apart := false }
def FnExactReverseSaid : Prop := fnExactReverseRow.holds Try.pinned (OpenSpec.ofChange fnExactReverseSpec)

/-- ITS FALSE NEIGHBOUR: 'it returns false'. Refute it at one input. -/
def fnExactReverseWrong : ChangeSpec := { name := "fnExactReverse", fn := fun _ => fun
  | [d1, d2] => { results := [.lit (.bool false)], args := [d1, d2] }
  | _ => none }
def FnExactReverseWrongFalsely : Prop := fnExactReverseRow.holds Try.pinned (OpenSpec.ofChange fnExactReverseWrong)

/-- 'laws.FnExactOffset': WHATEVER THE INPUT: true; the input reads as it did. -/
def fnExactOffsetSpec : ChangeSpec := { name := "fnExactOffset", fn := fun _ => fun
  | [d] => { results := [.lit (.bool true)], args := [d] }
  | _ => none }
def fnExactOffsetRow : OpenClaim := { program := "ytokbkbchblfcoaa", sum := "ea13ac8758e677d5315de2a21923d339751fa0476e6820ebec9470e30c27d0ca", func := "loop.example/pub-codelengths/laws.FnExactOffset", spec := "fnExactOffset", apart := false }
def FnExactOffsetSaid : Prop := fnExactOffsetRow.holds Try.pinned (OpenSpec.ofChange fnExactOffsetSpec)

/-- ITS FALSE NEIGHBOUR: 'it returns false'. Refute it at one input. -/
def fnExactOffsetWrong : ChangeSpec := { name := "fnExactOffset", fn := fun _ => fun
  | [d] => { results := [.lit (.bool false)], args := [d] }
  | _ => none }
def FnExactOffsetWrongFalsely : Prop := fnExactOffsetRow.holds Try.pinned (OpenSpec.ofChange fnExactOffsetWrong)

/-- 'laws.FnExactHistogram': WHATEVER THE INPUT: true; the input reads as it did. -/
def fnExactHistogramSpec : ChangeSpec := { name := "fnExactHistogram", fn := fun _ => fun
  | [d] => { results := [.lit (.bool true)], args := [d] }
  | _ => none }
def fnExactHistogramRow : OpenClaim := { program := "ytokbkbchblfcoaa", sum := "ea13ac8758e677d5315de2a21923d339751fa0476e6820ebec9470e30c27d0ca", func := "loop.example/pub-codelengths/laws.FnExactHistogram", spec := "fnExactHistogram", apart := false }
def FnExactHistogramSaid : Prop := fnExactHistogramRow.holds Try.pinned (OpenSpec.ofChange fnExactHistogramSpec)

/-- ITS FALSE NEIGHBOUR: 'it returns false'. Refute it at one input. -/
def fnExactHistogramWrong : ChangeSpec := { name := "fnExactHistogram", fn := fun _ => fun
  | [d] => { results := [.lit (.bool false)], args := [d] }
  | _ => none }
def FnExactHistogramWrongFalsely : Prop := fnExactHistogramRow.holds Try.pinned (OpenSpec.ofChange fnExactHistogramWrong)

/-- 'laws.FnExactFixed': WHATEVER THE INPUT: true; the input reads as it did. -/
def fnExactFixedSpec : ChangeSpec := { name := "fnExactFixed", fn := fun _ => fun
  | [d] => { results := [.lit (.bool true)], args := [d] }
  | _ => none }
def fnExactFixedRow : OpenClaim := { program := "ytokbkbchblfcoaa", sum := "ea13ac8758e677d5315de2a21923d339751fa0476e6820ebec9470e30c27d0ca", func := "loop.example/pub-codelengths/laws.FnExactFixed", spec := "fnExactFixed", apart := false }
def FnExactFixedSaid : Prop := fnExactFixedRow.holds Try.pinned (OpenSpec.ofChange fnExactFixedSpec)

/-- ITS FALSE NEIGHBOUR: 'it returns false'. Refute it at one input. -/
def fnExactFixedWrong : ChangeSpec := { name := "fnExactFixed", fn := fun _ => fun
  | [d] => { results := [.lit (.bool false)], args := [d] }
  | _ => none }
def FnExactFixedWrongFalsely : Prop := fnExactFixedRow.holds Try.pinned (OpenSpec.ofChange fnExactFixedWrong)

/-- 'laws.FnExactAssign': WHATEVER THE INPUT: true; the input reads as it did. -/
def fnExactAssignSpec : ChangeSpec := { name := "fnExactAssign", fn := fun _ => fun
  | [d1, d2, d3] => { results := [.lit (.bool true)], args := [d1, d2, d3] }
  | _ => none }
def fnExactAssignRow : OpenClaim := { program := "ytokbkbchblfcoaa", sum := "ea13ac8758e677d5315de2a21923d339751fa0476e6820ebec9470e30c27d0ca", func := "loop.example/pub-codelengths/laws.FnExactAssign", spec := "fnExactAssign", unfollowed := true, recurses := true, apart := false }
def FnExactAssignSaid : Prop := fnExactAssignRow.holds Try.pinned (OpenSpec.ofChange fnExactAssignSpec)

/-- ITS FALSE NEIGHBOUR: 'it returns false'. Refute it at one input. -/
def fnExactAssignWrong : ChangeSpec := { name := "fnExactAssign", fn := fun _ => fun
  | [d1, d2, d3] => { results := [.lit (.bool false)], args := [d1, d2, d3] }
  | _ => none }
def FnExactAssignWrongFalsely : Prop := fnExactAssignRow.holds Try.pinned (OpenSpec.ofChange fnExactAssignWrong)

/-- 'laws.FnCounts': WHATEVER THE INPUT: true; the input reads as it did. -/
def fnCountsSpec : ChangeSpec := { name := "fnCounts", fn := fun _ => fun
  | [d1, d2] => { results := [.lit (.bool true)], args := [d1, d2] }
  | _ => none }
def fnCountsRow : OpenClaim := { program := "ytokbkbchblfcoaa", sum := "ea13ac8758e677d5315de2a21923d339751fa0476e6820ebec9470e30c27d0ca", func := "loop.example/pub-codelengths/laws.FnCounts", spec := "fnCounts", recurses := true, apart := false }
def FnCountsSaid : Prop := fnCountsRow.holds Try.pinned (OpenSpec.ofChange fnCountsSpec)

/-- ITS FALSE NEIGHBOUR: 'it returns false'. Refute it at one input. -/
def fnCountsWrong : ChangeSpec := { name := "fnCounts", fn := fun _ => fun
  | [d1, d2] => { results := [.lit (.bool false)], args := [d1, d2] }
  | _ => none }
def FnCountsWrongFalsely : Prop := fnCountsRow.holds Try.pinned (OpenSpec.ofChange fnCountsWrong)

/- THE SECOND FORM. 'bulk': how many values and letters a reading holds, each counted each time it is reached (what is shared counts as often as it is met; a slice's spare places count too). A statement '..UptoSaid' is the law's where the arguments, and the package variables that the reading takes, are together of bulk at most 1048576: NARROWER than '..Said'. Prove '..Said' where nothing that the law and all that it calls make is longer than what came in: it says more and counts as full. Else prove '..UptoSaid'. A law counts once. -/
mutual
def uptoBulk {H : Type} : DataW H → Nat
  | .lit (.string bytes) => bytes.length + 1
  | .lit _ => 1
  | .nil => 1
  | .ptr d => uptoBulk d + 1
  | .slice elems spare => uptoBulkAll elems + uptoBulkAll spare + 1
  | .agg parts => uptoBulkAll parts + 1
  | .iface _ d => uptoBulk d + 1
  | .map entries => uptoBulkEntries entries + 1
  | .held _ => 1
def uptoBulkAll {H : Type} : List (DataW H) → Nat
  | [] => 0
  | d :: r => uptoBulk d + uptoBulkAll r
def uptoBulkEntries {H : Type} : List (Lit × DataW H) → Nat
  | [] => 0
  | x :: r => uptoBulkEntry x + uptoBulkEntries r
def uptoBulkEntry {H : Type} : Lit × DataW H → Nat
  | (.string bytes, d) => bytes.length + uptoBulk d + 1
  | (_, d) => uptoBulk d + 1
 end
def uptoSmall : (H : Type) → List (DataW H) → Bool := fun _ ds => decide (uptoBulkAll ds ≤ 1048576)
def OpenSpec.upto (s : _root_.Go.ChangeSpec) : _root_.Go.OpenSpec := { _root_.Go.OpenSpec.ofChange s with cond := some uptoSmall }

/-- 'laws.FnExactReverse', WHERE WHAT IT READS IS OF BULK AT MOST 1048576: true; the input reads as it did. -/
def fnExactReverseUptoRow : OpenClaim := { program := "ytokbkbchblfcoaa", sum := "ea13ac8758e677d5315de2a21923d339751fa0476e6820ebec9470e30c27d0ca", func := "loop.example/pub-codelengths/laws.FnExactReverse", spec := "fnExactReverse", apart := false, narrowed := true }
def FnExactReverseUptoSaid : Prop := fnExactReverseUptoRow.holds Try.pinned (OpenSpec.upto fnExactReverseSpec)

/-- 'laws.FnExactOffset', WHERE WHAT IT READS IS OF BULK AT MOST 1048576: true; the input reads as it did. -/
def fnExactOffsetUptoRow : OpenClaim := { program := "ytokbkbchblfcoaa", sum := "ea13ac8758e677d5315de2a21923d339751fa0476e6820ebec9470e30c27d0ca", func := "loop.example/pub-codelengths/laws.FnExactOffset", spec := "fnExactOffset", apart := false, narrowed := true }
def FnExactOffsetUptoSaid : Prop := fnExactOffsetUptoRow.holds Try.pinned (OpenSpec.upto fnExactOffsetSpec)

/-- 'laws.FnExactHistogram', WHERE WHAT IT READS IS OF BULK AT MOST 1048576: true; the input reads as it did. -/
def fnExactHistogramUptoRow : OpenClaim := { program := "ytokbkbchblfcoaa", sum := "ea13ac8758e677d5315de2a21923d339751fa0476e6820ebec9470e30c27d0ca", func := "loop.example/pub-codelengths/laws.FnExactHistogram", spec := "fnExactHistogram", apart := false, narrowed := true }
def FnExactHistogramUptoSaid : Prop := fnExactHistogramUptoRow.holds Try.pinned (OpenSpec.upto fnExactHistogramSpec)

/-- 'laws.FnExactFixed', WHERE WHAT IT READS IS OF BULK AT MOST 1048576: true; the input reads as it did. -/
def fnExactFixedUptoRow : OpenClaim := { program := "ytokbkbchblfcoaa", sum := "ea13ac8758e677d5315de2a21923d339751fa0476e6820ebec9470e30c27d0ca", func := "loop.example/pub-codelengths/laws.FnExactFixed", spec := "fnExactFixed", apart := false, narrowed := true }
def FnExactFixedUptoSaid : Prop := fnExactFixedUptoRow.holds Try.pinned (OpenSpec.upto fnExactFixedSpec)

/-- 'laws.FnExactAssign', WHERE WHAT IT READS IS OF BULK AT MOST 1048576: true; the input reads as it did. -/
def fnExactAssignUptoRow : OpenClaim := { program := "ytokbkbchblfcoaa", sum := "ea13ac8758e677d5315de2a21923d339751fa0476e6820ebec9470e30c27d0ca", func := "loop.example/pub-codelengths/laws.FnExactAssign", spec := "fnExactAssign", unfollowed := true, recurses := true, apart := false, narrowed := true }
def FnExactAssignUptoSaid : Prop := fnExactAssignUptoRow.holds Try.pinned (OpenSpec.upto fnExactAssignSpec)

/-- 'laws.FnCounts', WHERE WHAT IT READS IS OF BULK AT MOST 1048576: true; the input reads as it did. -/
def fnCountsUptoRow : OpenClaim := { program := "ytokbkbchblfcoaa", sum := "ea13ac8758e677d5315de2a21923d339751fa0476e6820ebec9470e30c27d0ca", func := "loop.example/pub-codelengths/laws.FnCounts", spec := "fnCounts", recurses := true, apart := false, narrowed := true }
def FnCountsUptoSaid : Prop := fnCountsUptoRow.holds Try.pinned (OpenSpec.upto fnCountsSpec)

end Rows
end Go.Proofs.Ytokbkbchblfcoaa
