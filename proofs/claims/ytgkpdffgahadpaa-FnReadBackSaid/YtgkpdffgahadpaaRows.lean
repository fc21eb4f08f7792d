/-
  No cell of these rows narrows 'for every input' (looked for: loops, veiled, ifaces, maps, wideKeys, modest, calm, conditions, laid).
  DERIVED. THE GIVEN ROWS OF THIS SEAT. 12 by the template 'for every input the law returns true; each argument reads behind the call as it read before'; 0 by the template 'total and deterministic' (their statements: YtgkpdffgahadpaaTotals.lean).
  GIVEN WITH THE SEED: the statements are not yours to turn. If you find one false, say at which input.
  Laid BY PROGRAM, IN A SANDBOX (cutbox-rows.mjs): the forced cells as the released guide's own fill.sh prints them over the translation 22f42da0d017944b… (all of the seat's roots in one cut). By AI agents, Wed Nov 11 2026. No macro, syntax, notation, axiom, sorry.
-/
import Derived.Test.YtgkpdffgahadpaaChecked
import GoSem.Claim
import GoSem.ClaimJoined
import GoSem.ClaimMapViews
import Derived.JoinedTies
import Derived.KernelRfl
namespace Go.Proofs.Ytgkpdffgahadpaa
/- THE CELL 'sum', in the pinned program and in every row, IS THE sha256 OF THE DUMP (.gsa) THAT YtgkpdffgahadpaaProg.lean LOADS. Nothing in Lean hashes anything: it is a label: what it is worth is what the hold of that sum in a sandbox is worth. -/
noncomputable def Try.pinned : Pinned := { name := "ytgkpdffgahadpaa", sum := "22f42da0d017944be0e6e78d9f24872a5ec8aa3a59144f04a693c7ae550231c6", checked := Try.checked }
namespace Rows
def none {H : Type} : Left H := { results := [], args := [] }

/-- 'laws.FnExactCodes': WHATEVER THE INPUT: true; the input reads as it did. -/
def fnExactCodesSpec : ChangeSpec := { name := "fnExactCodes", fn := fun _ => fun
  | [d1, d2] => { results := [.lit (.bool true)], args := [d1, d2] }
  | _ => none }
def fnExactCodesRow : OpenClaim := { program := "ytgkpdffgahadpaa", sum := "22f42da0d017944be0e6e78d9f24872a5ec8aa3a59144f04a693c7ae550231c6", func := "loop.example/pub-codelengths/laws.FnExactCodes", spec := "fnExactCodes", unfollowed := true, recurses := true, apart := false }
def FnExactCodesSaid : Prop := fnExactCodesRow.holds Try.pinned (OpenSpec.ofChange fnExactCodesSpec)

/-- ITS FALSE NEIGHBOUR: 'it returns false'. Refute it at one input. -/
def fnExactCodesWrong : ChangeSpec := { name := "fnExactCodes", fn := fun _ => fun
  | [d1, d2] => { results := [.lit (.bool false)], args := [d1, d2] }
  | _ => none }
def FnExactCodesWrongFalsely : Prop := fnExactCodesRow.holds Try.pinned (OpenSpec.ofChange fnExactCodesWrong)

/-- 'laws.FnFew': WHATEVER THE INPUT: true; the input reads as it did. -/
def fnFewSpec : ChangeSpec := { name := "fnFew", fn := fun _ => fun
  | [d1, d2] => { results := [.lit (.bool true)], args := [d1, d2] }
  | _ => none }
def fnFewRow : OpenClaim := { program := "ytgkpdffgahadpaa", sum := "22f42da0d017944be0e6e78d9f24872a5ec8aa3a59144f04a693c7ae550231c6", func := "loop.example/pub-codelengths/laws.FnFew", spec := "fnFew", unfollowed := true, recurses := true, apart := false }
def FnFewSaid : Prop := fnFewRow.holds Try.pinned (OpenSpec.ofChange fnFewSpec)

/-- ITS FALSE NEIGHBOUR: 'it returns false'. Refute it at one input. -/
def fnFewWrong : ChangeSpec := { name := "fnFew", fn := fun _ => fun
  | [d1, d2] => { results := [.lit (.bool false)], args := [d1, d2] }
  | _ => none }
def FnFewWrongFalsely : Prop := fnFewRow.holds Try.pinned (OpenSpec.ofChange fnFewWrong)

/-- 'laws.FnKraft': WHATEVER THE INPUT: true; the input reads as it did. -/
def fnKraftSpec : ChangeSpec := { name := "fnKraft", fn := fun _ => fun
  | [d1, d2] => { results := [.lit (.bool true)], args := [d1, d2] }
  | _ => none }
def fnKraftRow : OpenClaim := { program := "ytgkpdffgahadpaa", sum := "22f42da0d017944be0e6e78d9f24872a5ec8aa3a59144f04a693c7ae550231c6", func := "loop.example/pub-codelengths/laws.FnKraft", spec := "fnKraft", unfollowed := true, recurses := true, apart := false }
def FnKraftSaid : Prop := fnKraftRow.holds Try.pinned (OpenSpec.ofChange fnKraftSpec)

/-- ITS FALSE NEIGHBOUR: 'it returns false'. Refute it at one input. -/
def fnKraftWrong : ChangeSpec := { name := "fnKraft", fn := fun _ => fun
  | [d1, d2] => { results := [.lit (.bool false)], args := [d1, d2] }
  | _ => none }
def FnKraftWrongFalsely : Prop := fnKraftRow.holds Try.pinned (OpenSpec.ofChange fnKraftWrong)

/-- 'laws.FnLimits': WHATEVER THE INPUT: true; the input reads as it did. -/
def fnLimitsSpec : ChangeSpec := { name := "fnLimits", fn := fun _ => fun
  | [d1, d2] => { results := [.lit (.bool true)], args := [d1, d2] }
  | _ => none }
def fnLimitsRow : OpenClaim := { program := "ytgkpdffgahadpaa", sum := "22f42da0d017944be0e6e78d9f24872a5ec8aa3a59144f04a693c7ae550231c6", func := "loop.example/pub-codelengths/laws.FnLimits", spec := "fnLimits", unfollowed := true, recurses := true, apart := false }
def FnLimitsSaid : Prop := fnLimitsRow.holds Try.pinned (OpenSpec.ofChange fnLimitsSpec)

/-- ITS FALSE NEIGHBOUR: 'it returns false'. Refute it at one input. -/
def fnLimitsWrong : ChangeSpec := { name := "fnLimits", fn := fun _ => fun
  | [d1, d2] => { results := [.lit (.bool false)], args := [d1, d2] }
  | _ => none }
def FnLimitsWrongFalsely : Prop := fnLimitsRow.holds Try.pinned (OpenSpec.ofChange fnLimitsWrong)

/-- 'laws.FnOrder': WHATEVER THE INPUT: true; the input reads as it did. -/
def fnOrderSpec : ChangeSpec := { name := "fnOrder", fn := fun _ => fun
  | [d1, d2] => { results := [.lit (.bool true)], args := [d1, d2] }
  | _ => none }
def fnOrderRow : OpenClaim := { program := "ytgkpdffgahadpaa", sum := "22f42da0d017944be0e6e78d9f24872a5ec8aa3a59144f04a693c7ae550231c6", func := "loop.example/pub-codelengths/laws.FnOrder", spec := "fnOrder", unfollowed := true, recurses := true, apart := false }
def FnOrderSaid : Prop := fnOrderRow.holds Try.pinned (OpenSpec.ofChange fnOrderSpec)

/-- ITS FALSE NEIGHBOUR: 'it returns false'. Refute it at one input. -/
def fnOrderWrong : ChangeSpec := { name := "fnOrder", fn := fun _ => fun
  | [d1, d2] => { results := [.lit (.bool false)], args := [d1, d2] }
  | _ => none }
def FnOrderWrongFalsely : Prop := fnOrderRow.holds Try.pinned (OpenSpec.ofChange fnOrderWrong)

/-- 'laws.FnHuffman': WHATEVER THE INPUT: true; the input reads as it did. -/
def fnHuffmanSpec : ChangeSpec := { name := "fnHuffman", fn := fun _ => fun
  | [d1, d2] => { results := [.lit (.bool true)], args := [d1, d2] }
  | _ => none }
def fnHuffmanRow : OpenClaim := { program := "ytgkpdffgahadpaa", sum := "22f42da0d017944be0e6e78d9f24872a5ec8aa3a59144f04a693c7ae550231c6", func := "loop.example/pub-codelengths/laws.FnHuffman", spec := "fnHuffman", unfollowed := true, recurses := true, apart := false }
def FnHuffmanSaid : Prop := fnHuffmanRow.holds Try.pinned (OpenSpec.ofChange fnHuffmanSpec)

/-- ITS FALSE NEIGHBOUR: 'it returns false'. Refute it at one input. -/
def fnHuffmanWrong : ChangeSpec := { name := "fnHuffman", fn := fun _ => fun
  | [d1, d2] => { results := [.lit (.bool false)], args := [d1, d2] }
  | _ => none }
def FnHuffmanWrongFalsely : Prop := fnHuffmanRow.holds Try.pinned (OpenSpec.ofChange fnHuffmanWrong)

/-- 'laws.FnLeast': WHATEVER THE INPUT: true; the input reads as it did. -/
def fnLeastSpec : ChangeSpec := { name := "fnLeast", fn := fun _ => fun
  | [d1, d2] => { results := [.lit (.bool true)], args := [d1, d2] }
  | _ => none }
def fnLeastRow : OpenClaim := { program := "ytgkpdffgahadpaa", sum := "22f42da0d017944be0e6e78d9f24872a5ec8aa3a59144f04a693c7ae550231c6", func := "loop.example/pub-codelengths/laws.FnLeast", spec := "fnLeast", unfollowed := true, recurses := true, apart := false }
def FnLeastSaid : Prop := fnLeastRow.holds Try.pinned (OpenSpec.ofChange fnLeastSpec)

/-- ITS FALSE NEIGHBOUR: 'it returns false'. Refute it at one input. -/
def fnLeastWrong : ChangeSpec := { name := "fnLeast", fn := fun _ => fun
  | [d1, d2] => { results := [.lit (.bool false)], args := [d1, d2] }
  | _ => none }
def FnLeastWrongFalsely : Prop := fnLeastRow.holds Try.pinned (OpenSpec.ofChange fnLeastWrong)

/-- 'laws.FnReadBack': WHATEVER THE INPUT: true; the input reads as it did. -/
def fnReadBackSpec : ChangeSpec := { name := "fnReadBack", fn := fun _ => fun
  | [d1, d2, d3] => { results := [.lit (.bool true)], args := [d1, d2, d3] }
  | _ => none }
def fnReadBackRow : OpenClaim := { program := "ytgkpdffgahadpaa", sum := "22f42da0d017944be0e6e78d9f24872a5ec8aa3a59144f04a693c7ae550231c6", func := "loop.example/pub-codelengths/laws.FnReadBack", spec := "fnReadBack", unfollowed := true, recurses := true, apart := false }
def FnReadBackSaid : Prop := fnReadBackRow.holds Try.pinned (OpenSpec.ofChange fnReadBackSpec)

/-- ITS FALSE NEIGHBOUR: 'it returns false'. Refute it at one input. -/
def fnReadBackWrong : ChangeSpec := { name := "fnReadBack", fn := fun _ => fun
  | [d1, d2, d3] => { results := [.lit (.bool false)], args := [d1, d2, d3] }
  | _ => none }
def FnReadBackWrongFalsely : Prop := fnReadBackRow.holds Try.pinned (OpenSpec.ofChange fnReadBackWrong)

/-- 'laws.FnMoreBits': WHATEVER THE INPUT: true; the input reads as it did. -/
def fnMoreBitsSpec : ChangeSpec := { name := "fnMoreBits", fn := fun _ => fun
  | [d1, d2] => { results := [.lit (.bool true)], args := [d1, d2] }
  | _ => none }
def fnMoreBitsRow : OpenClaim := { program := "ytgkpdffgahadpaa", sum := "22f42da0d017944be0e6e78d9f24872a5ec8aa3a59144f04a693c7ae550231c6", func := "loop.example/pub-codelengths/laws.FnMoreBits", spec := "fnMoreBits", unfollowed := true, recurses := true, apart := false }
def FnMoreBitsSaid : Prop := fnMoreBitsRow.holds Try.pinned (OpenSpec.ofChange fnMoreBitsSpec)

/-- ITS FALSE NEIGHBOUR: 'it returns false'. Refute it at one input. -/
def fnMoreBitsWrong : ChangeSpec := { name := "fnMoreBits", fn := fun _ => fun
  | [d1, d2] => { results := [.lit (.bool false)], args := [d1, d2] }
  | _ => none }
def FnMoreBitsWrongFalsely : Prop := fnMoreBitsRow.holds Try.pinned (OpenSpec.ofChange fnMoreBitsWrong)

/-- 'laws.FnExactRaw': WHATEVER THE INPUT: true; the input reads as it did. -/
def fnExactRawSpec : ChangeSpec := { name := "fnExactRaw", fn := fun _ => fun
  | [d1, d2, d3] => { results := [.lit (.bool true)], args := [d1, d2, d3] }
  | _ => none }
def fnExactRawRow : OpenClaim := { program := "ytgkpdffgahadpaa", sum := "22f42da0d017944be0e6e78d9f24872a5ec8aa3a59144f04a693c7ae550231c6", func := "loop.example/pub-codelengths/laws.FnExactRaw", spec := "fnExactRaw", unfollowed := true, recurses := true, apart := false }
def FnExactRawSaid : Prop := fnExactRawRow.holds Try.pinned (OpenSpec.ofChange fnExactRawSpec)

/-- ITS FALSE NEIGHBOUR: 'it returns false'. Refute it at one input. -/
def fnExactRawWrong : ChangeSpec := { name := "fnExactRaw", fn := fun _ => fun
  | [d1, d2, d3] => { results := [.lit (.bool false)], args := [d1, d2, d3] }
  | _ => none }
def FnExactRawWrongFalsely : Prop := fnExactRawRow.holds Try.pinned (OpenSpec.ofChange fnExactRawWrong)

/-- 'laws.FnExactTotal': WHATEVER THE INPUT: true; the input reads as it did. -/
def fnExactTotalSpec : ChangeSpec := { name := "fnExactTotal", fn := fun _ => fun
  | [d1, d2, d3] => { results := [.lit (.bool true)], args := [d1, d2, d3] }
  | _ => none }
def fnExactTotalRow : OpenClaim := { program := "ytgkpdffgahadpaa", sum := "22f42da0d017944be0e6e78d9f24872a5ec8aa3a59144f04a693c7ae550231c6", func := "loop.example/pub-codelengths/laws.FnExactTotal", spec := "fnExactTotal", unfollowed := true, recurses := true, apart := false }
def FnExactTotalSaid : Prop := fnExactTotalRow.holds Try.pinned (OpenSpec.ofChange fnExactTotalSpec)

/-- ITS FALSE NEIGHBOUR: 'it returns false'. Refute it at one input. -/
def fnExactTotalWrong : ChangeSpec := { name := "fnExactTotal", fn := fun _ => fun
  | [d1, d2, d3] => { results := [.lit (.bool false)], args := [d1, d2, d3] }
  | _ => none }
def FnExactTotalWrongFalsely : Prop := fnExactTotalRow.holds Try.pinned (OpenSpec.ofChange fnExactTotalWrong)

/-- 'laws.FnExactCan': WHATEVER THE INPUT: true; the input reads as it did. -/
def fnExactCanSpec : ChangeSpec := { name := "fnExactCan", fn := fun _ => fun
  | [d1, d2, d3] => { results := [.lit (.bool true)], args := [d1, d2, d3] }
  | _ => none }
def fnExactCanRow : OpenClaim := { program := "ytgkpdffgahadpaa", sum := "22f42da0d017944be0e6e78d9f24872a5ec8aa3a59144f04a693c7ae550231c6", func := "loop.example/pub-codelengths/laws.FnExactCan", spec := "fnExactCan", unfollowed := true, recurses := true, apart := false }
def FnExactCanSaid : Prop := fnExactCanRow.holds Try.pinned (OpenSpec.ofChange fnExactCanSpec)

/-- ITS FALSE NEIGHBOUR: 'it returns false'. Refute it at one input. -/
def fnExactCanWrong : ChangeSpec := { name := "fnExactCan", fn := fun _ => fun
  | [d1, d2, d3] => { results := [.lit (.bool false)], args := [d1, d2, d3] }
  | _ => none }
def FnExactCanWrongFalsely : Prop := fnExactCanRow.holds Try.pinned (OpenSpec.ofChange fnExactCanWrong)

/- THE SECOND FORM. 'bulk': how many values and letters a reading holds, each counted each time it is reached (what is shared counts as often as it is met; a slice's spare places count too). A statement '..UptoSaid' is the law's where the arguments, and the package variables that the reading takes, are together of bulk at most 1048576: NARROWER than '..Said'. Prove '..Said' where nothing that the law and all that it calls make is longer than what came in: it says more and counts as full. Else prove '..UptoSaid'. A law counts once. -/
mutual
def uptoBulk {H : Type} : DataW H → Nat
  | .lit (.string bytes) => bytes.length + 1
  | .lit _ => 1
  | .nil => 1
  | .ptr d => uptoBulk d + 1
  | .slice elems spare => uptoBulkAll elems + uptoBulkAll spare + 1
  | .agg parts => uptoBulkAll parts + 1
  | .iface _ d => uptoBulk d + 1
  | .map entries => uptoBulkEntries entries + 1
  | .held _ => 1
def uptoBulkAll {H : Type} : List (DataW H) → Nat
  | [] => 0
  | d :: r => uptoBulk d + uptoBulkAll r
def uptoBulkEntries {H : Type} : List (Lit × DataW H) → Nat
  | [] => 0
  | x :: r => uptoBulkEntry x + uptoBulkEntries r
def uptoBulkEntry {H : Type} : Lit × DataW H → Nat
  | (.string bytes, d) => bytes.length + uptoBulk d + 1
  | (_, d) => uptoBulk d + 1
 end
def uptoSmall : (H : Type) → List (DataW H) → Bool := fun _ ds => decide (uptoBulkAll ds ≤ 1048576)
def OpenSpec.upto (s : _root_.Go.ChangeSpec) : _root_.Go.OpenSpec := { _root_.Go.OpenSpec.ofChange s with cond := some uptoSmall }

/-- 'laws.FnExactCodes', WHERE WHAT IT READS IS OF BULK AT MOST 1048576: true; the input reads as it did. -/
def fnExactCodesUptoRow : OpenClaim := { program := "ytgkpdffgahadpaa", sum := "22f42da0d017944be0e6e78d9f24872a5ec8aa3a59144f04a693c7ae550231c6", func := "loop.example/pub-codelengths/laws.FnExactCodes", spec := "fnExactCodes", unfollowed := true, recurses := true, apart := false, narrowed := true }
def FnExactCodesUptoSaid : Prop := fnExactCodesUptoRow.holds Try.pinned (OpenSpec.upto fnExactCodesSpec)

/-- 'laws.FnFew', WHERE WHAT IT READS IS OF BULK AT MOST 1048576: true; the input reads as it did. -/
def fnFewUptoRow : OpenClaim := { program := "ytgkpdffgahadpaa", sum := "22f42da0d017944be0e6e78d9f24872a5ec8aa3a59144f04a693c7ae550231c6", func := "loop.example/pub-codelengths/laws.FnFew", spec := "fnFew", unfollowed := true, recurses := true, apart := false, narrowed := true }
def FnFewUptoSaid : Prop := fnFewUptoRow.holds Try.pinned (OpenSpec.upto fnFewSpec)

/-- 'laws.FnKraft', WHERE WHAT IT READS IS OF BULK AT MOST 1048576: true; the input reads as it did. -/
def fnKraftUptoRow : OpenClaim := { program := "ytgkpdffgahadpaa", sum := "22f42da0d017944be0e6e78d9f24872a5ec8aa3a59144f04a693c7ae550231c6", func := "loop.example/pub-codelengths/laws.FnKraft", spec := "fnKraft", unfollowed := true, recurses := true, apart := false, narrowed := true }
def FnKraftUptoSaid : Prop := fnKraftUptoRow.holds Try.pinned (OpenSpec.upto fnKraftSpec)

/-- 'laws.FnLimits', WHERE WHAT IT READS IS OF BULK AT MOST 1048576: true; the input reads as it did. -/
def fnLimitsUptoRow : OpenClaim := { program := "ytgkpdffgahadpaa", sum := "22f42da0d017944be0e6e78d9f24872a5ec8aa3a59144f04a693c7ae550231c6", func := "loop.example/pub-codelengths/laws.FnLimits", spec := "fnLimits", unfollowed := true, recurses := true, apart := false, narrowed := true }
def FnLimitsUptoSaid : Prop := fnLimitsUptoRow.holds Try.pinned (OpenSpec.upto fnLimitsSpec)

/-- 'laws.FnOrder', WHERE WHAT IT READS IS OF BULK AT MOST 1048576: true; the input reads as it did. -/
def fnOrderUptoRow : OpenClaim := { program := "ytgkpdffgahadpaa", sum := "22f42da0d017944be0e6e78d9f24872a5ec8aa3a59144f04a693c7ae550231c6", func := "loop.example/pub-codelengths/laws.FnOrder", spec := "fnOrder", unfollowed := true, recurses := true, apart := false, narrowed := true }
def FnOrderUptoSaid : Prop := fnOrderUptoRow.holds Try.pinned (OpenSpec.upto fnOrderSpec)

/-- 'laws.FnHuffman', WHERE WHAT IT READS IS OF BULK AT MOST 1048576: true; the input reads as it did. -/
def fnHuffmanUptoRow : OpenClaim := { program := "ytgkpdffgahadpaa", sum := "22f42da0d017944be0e6e78d9f24872a5ec8aa3a59144f04a693c7ae550231c6", func := "loop.example/pub-codelengths/laws.FnHuffman", spec := "fnHuffman", unfollowed := true, recurses := true, apart := false, narrowed := true }
def FnHuffmanUptoSaid : Prop := fnHuffmanUptoRow.holds Try.pinned (OpenSpec.upto fnHuffmanSpec)

/-- 'laws.FnLeast', WHERE WHAT IT READS IS OF BULK AT MOST 1048576: true; the input reads as it did. -/
def fnLeastUptoRow : OpenClaim := { program := "ytgkpdffgahadpaa", sum := "22f42da0d017944be0e6e78d9f24872a5ec8aa3a59144f04a693c7ae550231c6", func := "loop.example/pub-codelengths/laws.FnLeast", spec := "fnLeast", unfollowed := true, recurses := true, apart := false, narrowed := true }
def FnLeastUptoSaid : Prop := fnLeastUptoRow.holds Try.pinned (OpenSpec.upto fnLeastSpec)

/-- 'laws.FnReadBack', WHERE WHAT IT READS IS OF BULK AT MOST 1048576: true; the input reads as it did. -/
def fnReadBackUptoRow : OpenClaim := { program := "ytgkpdffgahadpaa", sum := "22f42da0d017944be0e6e78d9f24872a5ec8aa3a59144f04a693c7ae550231c6", func := "loop.example/pub-codelengths/laws.FnReadBack", spec := "fnReadBack", unfollowed := true, recurses := true, apart := false, narrowed := true }
def FnReadBackUptoSaid : Prop := fnReadBackUptoRow.holds Try.pinned (OpenSpec.upto fnReadBackSpec)

/-- 'laws.FnMoreBits', WHERE WHAT IT READS IS OF BULK AT MOST 1048576: true; the input reads as it did. -/
def fnMoreBitsUptoRow : OpenClaim := { program := "ytgkpdffgahadpaa", sum := "22f42da0d017944be0e6e78d9f24872a5ec8aa3a59144f04a693c7ae550231c6", func := "loop.example/pub-codelengths/laws.FnMoreBits", spec := "fnMoreBits", unfollowed := true, recurses := true, apart := false, narrowed := true }
def FnMoreBitsUptoSaid : Prop := fnMoreBitsUptoRow.holds Try.pinned (OpenSpec.upto fnMoreBitsSpec)

/-- 'laws.FnExactRaw', WHERE WHAT IT READS IS OF BULK AT MOST 1048576: true; the input reads as it did. -/
def fnExactRawUptoRow : OpenClaim := { program := "ytgkpdffgahadpaa", sum := "22f42da0d017944be0e6e78d9f24872a5ec8aa3a59144f04a693c7ae550231c6", func := "loop.example/pub-codelengths/laws.FnExactRaw", spec := "fnExactRaw", unfollowed := true, recurses := true, apart := false, narrowed := true }
def FnExactRawUptoSaid : Prop := fnExactRawUptoRow.holds Try.pinned (OpenSpec.upto fnExactRawSpec)

/-- 'laws.FnExactTotal', WHERE WHAT IT READS IS OF BULK AT MOST 1048576: true; the input reads as it did. -/
def fnExactTotalUptoRow : OpenClaim := { program := "ytgkpdffgahadpaa", sum := "22f42da0d017944be0e6e78d9f24872a5ec8aa3a59144f04a693c7ae550231c6", func := "loop.example/pub-codelengths/laws.FnExactTotal", spec := "fnExactTotal", unfollowed := true, recurses := true, apart := false, narrowed := true }
def FnExactTotalUptoSaid : Prop := fnExactTotalUptoRow.holds Try.pinned (OpenSpec.upto fnExactTotalSpec)

/-- 'laws.FnExactCan', WHERE WHAT IT READS IS OF BULK AT MOST 1048576: true; the input reads as it did. -/
def fnExactCanUptoRow : OpenClaim := { program := "ytgkpdffgahadpaa", sum := "22f42da0d017944be0e6e78d9f24872a5ec8aa3a59144f04a693c7ae550231c6", func := "loop.example/pub-codelengths/laws.FnExactCan", spec := "fnExactCan", unfollowed := true, recurses := true, apart := false, narrowed := true }
def FnExactCanUptoSaid : Prop := fnExactCanUptoRow.holds Try.pinned (OpenSpec.upto fnExactCanSpec)

end Rows
end Go.Proofs.Ytgkpdffgahadpaa
